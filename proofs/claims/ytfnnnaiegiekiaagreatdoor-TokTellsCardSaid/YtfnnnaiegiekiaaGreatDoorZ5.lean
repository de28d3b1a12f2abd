/- Proved: words, plain laws over lists and numbers, and walks of functions of the Go program, several texts packed into one. No conditions. -/
import Derived.Test.YtfnnnaiegiekiaaGreatDoorZ4
set_option maxRecDepth 100000
set_option maxHeartbeats 16000000
namespace Go.Proofs.YtfnnnaiegiekiaaGreatDoor.P
open Go.RowKit Go.Proofs.YtfnnnaiegiekiaaGreatDoor.G Go.Proofs.YtfnnnaiegiekiaaGreatDoorW.PrintWords Go.Proofs.YtfnnnaiegiekiaaGreatDoorW.PrintLast Go.Proofs.YtfnnnaiegiekiaaGreatDoorW.PrintMore
attribute [local go_sem high] G.str_leq G.str_gtr
attribute [local go_sem] max2_int min2_int max_two min_two max_three min_three max_four min_four
set_option linter.unusedVariables false
set_option linter.unusedSimpArgs false
noncomputable section
noncomputable def tagF (s : List UInt8) (p n : Nat) : Int × ByteArray × ByteArray × List S63 × Bool × Int × Bool :=
 if (finA [] (p + n + wdU [47, 62] (s.drop (p + n))) (s.drop (p + n + wdU [47, 62] (s.drop (p + n))))).2.2.2 = true then
  (if n = 1 then (1, bs (cleanL (low ((s.drop (p + n)).take (wdU [47, 62] (s.drop (p + n)))))), ⟨#[]⟩, (finA [] (p + n + wdU [47, 62] (s.drop (p + n))) (s.drop (p + n + wdU [47, 62] (s.drop (p + n))))).1, (finA [] (p + n + wdU [47, 62] (s.drop (p + n))) (s.drop (p + n + wdU [47, 62] (s.drop (p + n))))).2.1, (finA [] (p + n + wdU [47, 62] (s.drop (p + n))) (s.drop (p + n + wdU [47, 62] (s.drop (p + n))))).2.2.1, true)
  else (2, bs (cleanL (low ((s.drop (p + n)).take (wdU [47, 62] (s.drop (p + n)))))), ⟨#[]⟩, [], false, (finA [] (p + n + wdU [47, 62] (s.drop (p + n))) (s.drop (p + n + wdU [47, 62] (s.drop (p + n))))).2.2.1, true))
 else (0, ⟨#[]⟩, ⟨#[]⟩, [], false, (s.length : Int), false)
noncomputable def tag_Read.f (a0 : ByteArray) (a1 : Int) : Option (Int × ByteArray × ByteArray × List S63 × Bool × Int × Bool) := if a0.size ≤ 100000000 ∧ -9223372036854775808 ≤ a1 ∧ a1 ≤ 9223372036854775807 then some (if tagN (lb a0) a1 = 0 then (0, ⟨#[]⟩, ⟨#[]⟩, [], false, a1, false) else tagF (lb a0) a1.toNat (tagN (lb a0) a1).toNat) else none
def tkC : Array Value := #[.int .i64 0, .string ⟨#[]⟩, .string ⟨#[]⟩, .slice none 0 0, .bool false]
def TkA (w W : World) : Prop := W.heap[w.heap.size]? = some (.cells tkC 29 (0, 0)) ∧ Below w.heap.size w W
end
end Go.Proofs.YtfnnnaiegiekiaaGreatDoor.P
namespace Go.Proofs.YtfnnnaiegiekiaaGreatDoor.P
open Go.RowKit Go.Proofs.YtfnnnaiegiekiaaGreatDoor.G Go.Proofs.YtfnnnaiegiekiaaGreatDoorW.PrintWords Go.Proofs.YtfnnnaiegiekiaaGreatDoorW.PrintLast Go.Proofs.YtfnnnaiegiekiaaGreatDoorW.PrintMore
attribute [local go_sem high] G.str_leq G.str_gtr
attribute [local go_sem] max2_int min2_int max_two min_two max_three min_three max_four min_four
set_option linter.unusedVariables false
set_option linter.unusedSimpArgs false
noncomputable section
section
variable {w W W1 : World}
theorem TkA.below (h : TkA w W) (hb : Below W.heap.size W W1) : TkA w W1 := ⟨blk_below h.1 hb, below_step h.2 hb⟩
theorem TkA.drewN (h : TkA w W) (m : Nat) : TkA w (W.drewN m) := h.below (pw_below_drewN (Below.refl _ _) m)
theorem TkA.drew (h : TkA w W) : TkA w W.drew := h.below (below_drew1 (Below.refl _ _))
theorem TkA.alloc (h : TkA w W) (o : Obj) : TkA w (W.alloc o) := h.below (below_alloc (Below.refl _ _) o)
theorem TkA.new (w : World) : TkA w (w.alloc (.cells #[.int .i64 0, .string ⟨#[]⟩, .string ⟨#[]⟩, .slice none 0 0, .bool false] 29)) := ⟨heap_alloc_new w (.cells tkC 29), below_alloc (Below.refl _ _) _⟩
theorem TkA.c0 (h : TkA w W) : W.cell? ⟨w.heap.size, 0, none⟩ = some (.int .i64 0) := (blk_cell h.1 0).trans rfl
theorem TkA.c1 (h : TkA w W) : W.cell? ⟨w.heap.size, 1, none⟩ = some (.string ⟨#[]⟩) := (blk_cell h.1 1).trans rfl
theorem TkA.c2 (h : TkA w W) : W.cell? ⟨w.heap.size, 2, none⟩ = some (.string ⟨#[]⟩) := (blk_cell h.1 2).trans rfl
theorem TkA.c3 (h : TkA w W) : W.cell? ⟨w.heap.size, 3, none⟩ = some (.slice none 0 0) := (blk_cell h.1 3).trans rfl
theorem TkA.c4 (h : TkA w W) : W.cell? ⟨w.heap.size, 4, none⟩ = some (.bool false) := (blk_cell h.1 4).trans rfl
theorem TkA.f0 (h : TkA w W) (i : Nat) : W.frozen? ⟨w.heap.size, i, none⟩ = false := blk_frozen h.1 i
def putTk (W : World) (g : Nat) (a b c d e : Value) : World := ((((W.setCell ⟨g, 0, none⟩ a).setCell ⟨g, 1, none⟩ b).setCell ⟨g, 2, none⟩ c).setCell ⟨g, 3, none⟩ d).setCell ⟨g, 4, none⟩ e
theorem TkA.put (h : TkA w W) (a b c d e : Value) : (putTk W w.heap.size a b c d e).heap[w.heap.size]? = some (.cells #[a, b, c, d, e] 29 (0, 0)) := by
 unfold putTk
 refine blk_put (cs := #[a, b, c, d, .bool false]) ?_ 4 _ rfl
 refine blk_put (cs := #[a, b, c, .slice none 0 0, .bool false]) ?_ 3 _ rfl
 refine blk_put (cs := #[a, b, .string ⟨#[]⟩, .slice none 0 0, .bool false]) ?_ 2 _ rfl
 refine blk_put (cs := #[a, .string ⟨#[]⟩, .string ⟨#[]⟩, .slice none 0 0, .bool false]) ?_ 1 _ rfl
 exact blk_put (cs := tkC) h.1 0 _ rfl
theorem TkA.putB (h : TkA w W) (a b c d e : Value) : Below w.heap.size w (putTk W w.heap.size a b c d e) := by
 unfold putTk
 exact below_set (below_set (below_set (below_set (below_set h.2 (Nat.le_refl _)) (Nat.le_refl _)) (Nat.le_refl _)) (Nat.le_refl _)) (Nat.le_refl _)
theorem TkA.putR (h : TkA w W) {v : Value} {l : List S63} (ho : Kd.R k63 63 W w.heap.size (fun _ => True) v l) (a b c d e : Value) : Kd.R k63 63 (putTk W w.heap.size a b c d e) w.heap.size (fun _ => True) v l := by
 unfold putTk
 exact Kd.R_mono (Kd.R_far (p := ⟨w.heap.size, 4, none⟩) (Kd.R_far (p := ⟨w.heap.size, 3, none⟩) (Kd.R_far (p := ⟨w.heap.size, 2, none⟩) (Kd.R_far (p := ⟨w.heap.size, 1, none⟩) (Kd.R_far (p := ⟨w.heap.size, 0, none⟩) (Kd.R_types ho h.1 (by decide)) (fun _ hk => hk.2) _) (fun _ hk => hk.2) _) (fun _ hk => hk.2) _) (fun _ hk => hk.2) _) (fun _ hk => hk.2) _) (fun _ _ => trivial)
end
end
end Go.Proofs.YtfnnnaiegiekiaaGreatDoor.P
namespace Go.Proofs.YtfnnnaiegiekiaaGreatDoor.P
open Go.RowKit Go.Proofs.YtfnnnaiegiekiaaGreatDoor.G Go.Proofs.YtfnnnaiegiekiaaGreatDoorW.PrintWords Go.Proofs.YtfnnnaiegiekiaaGreatDoorW.PrintLast Go.Proofs.YtfnnnaiegiekiaaGreatDoorW.PrintMore
attribute [local go_sem high] G.str_leq G.str_gtr
attribute [local go_sem] max2_int min2_int max_two min_two max_three min_three max_four min_four
set_option linter.unusedVariables false
set_option linter.unusedSimpArgs false
noncomputable section
/- the walk -/
theorem TkA.low {w W : World} (h : TkA w W) : Below w.heap.size w W := h.2
theorem tag_Read.none_ (s : ByteArray) (a1 : Int) (w : World) (hN : tag_place_name.f s a1 = some 0) : Calls Tryz.prog 24 #[.string s, .int .i64 a1] w fun e w' => ∃ v3_ : Value, e = .returned (.tuple #[.agg #[.int .i64 0, .string ⟨#[]⟩, .string ⟨#[]⟩, v3_, .bool false], .int .i64 a1, .bool false]) ∧ Kd.R k63 63 w' w.heap.size (fun _ => True) v3_ [] ∧ Below w.heap.size w w' := by
 have HA := Aside0.mk (TkA.new w)
 have N1 := Lib.hid (fun W => tag_place_name.calls s a1 0 W hN)
 clear hN
 go_enter Tryz.func24, Tryz.ntmps24
 go_wp2_with fail
 refine (N1.out _).mono ?_
 rintro e wq ⟨rfl, hb⟩
 have hA := TkA.below HA.out hb
 clear HA hb
 have HA := Aside0.mk hA
 have c0 := hA.c0
 have c1 := hA.c1
 have c2 := hA.c2
 have c3 := hA.c3
 have c4 := hA.c4
 have f0 := hA.f0 0
 have f1 := hA.f0 1
 have f2 := hA.f0 2
 have f3 := hA.f0 3
 have f4 := hA.f0 4
 clear hA
 go_wp2
 refine bodyPost_ret (results_ctt rfl _ _ w.heap.size 29 #[.int .i64 0, .string ⟨#[]⟩, .string ⟨#[]⟩, .slice none 0 0, .bool false] (0, 0) _ rfl (TkA.put HA.out (.int .i64 0) (.string ⟨#[]⟩) (.string ⟨#[]⟩) (.slice none 0 0) (.bool false)) Tryz.underlying29 rfl (by kernel_rfl)) rfl ?_
 exact ⟨_, rfl, Kd.R_nil _ _ _ _ _, TkA.putB HA.out _ _ _ _ _⟩
theorem tag_Read.open_ (s : ByteArray) (p n f t : Nat) (w : World) (hG : GW w) (hs : s.size ≤ 100000000) (hf : p + n = f) (hfs : f ≤ s.size) (ht : f + wdU [47, 62] ((lb s).drop f) = t) (hn : 1 ≤ n ∧ n ≤ 2) (hN : tag_place_name.f s (p : Int) = some (n : Int)) (la : List S63) (sf : Bool) (m : Nat) (hA : attrs_Read.f s (t : Int) = some (la, sf, (m : Int), false)) :
 Calls Tryz.prog 24 #[.string s, .int .i64 (p : Int)] w fun e w' => ∃ v3_ : Value, e = .returned (.tuple #[.agg #[.int .i64 0, .string ⟨#[]⟩, .string ⟨#[]⟩, v3_, .bool false], .int .i64 (s.size : Int), .bool false]) ∧ Kd.R k63 63 w' w.heap.size (fun _ => True) v3_ [] ∧ Below w.heap.size w w' := by
 have HA := Aside0.mk (TkA.new w)
 have HG := Aside0.mk hG
 have hsz := length_lb s
 have hw := wdU_le [47, 62] ((lb s).drop f)
 rw [List.length_drop, hsz] at hw
 have N1 := Lib.hid (fun W => tag_place_name.calls s p n W hN)
 have z0 : ((n : Int) == 0) = false := beq_eq_false_iff_ne.2 (by omega)
 have HQ0 := Lib.hid (show f ≤ f ∧ f + (t - f) = t ∧ f + wdU [47, 62] ((lb s).drop f) = t from ⟨Nat.le_refl _, by omega, ht⟩)
 have HT := Lib.hid (show f ≤ t ∧ t ≤ s.size from ⟨by omega, by omega⟩)
 have HS := Lib.hid hs
 have b1 : (0 : Int) ≤ (p : Int) := by omega
 have b2 : (p : Int) ≤ 1099511627776 := by omega
 have b3 : (1 : Int) ≤ (n : Int) := by omega
 have b4 : (n : Int) ≤ 2 := by omega
 have HF := Lib.hid (show (p : Int) + (n : Int) = (f : Int) by omega)
 have A1 := Lib.hid (fun W g => attrs_Read.calls s (t : Int) la sf (m : Int) false W hA g)
 clear hA
 clear hG hs hsz hw hfs ht hn hN hf
 go_enter Tryz.func24, Tryz.ntmps24
 go_wp2_with fail
 refine (N1.out _).mono ?_
 rintro e wq ⟨rfl, hb⟩
 have hA := TkA.below HA.out hb
 clear HA hb
 have HA := Aside0.mk hA
 have c0 := hA.c0
 have c1 := hA.c1
 have c2 := hA.c2
 have c3 := hA.c3
 have c4 := hA.c4
 have f0 := hA.f0 0
 have f1 := hA.f0 1
 have f2 := hA.f0 2
 have f3 := hA.f0 3
 have f4 := hA.f0 4
 clear hA
 go_upto_block 0 with (fail)
 go_cut [10] (fun v10 wc => v10 = .int .i64 (t : Int) ∧ Aside0 (TkA w wc))
 case first =>
  go_wp2
  go_loopg [10] (t - f) (fun gg v10 w' => ∃ q : Nat, v10 = .int .i64 (q : Int) ∧ Hid (f ≤ q ∧ q + gg = t ∧ q + wdU [47, 62] ((lb s).drop q) = t) ∧ Aside0 (TkA w w'))
  case atStart => exact ⟨f, by rw [← HF.out], HQ0, ⟨by exact HA.out⟩⟩
  case round =>
   clear HA c0 c1 c2 c3 c4 f0 f1 f2 f3 f4
   obtain ⟨q, rfl, hq, HA⟩ := hrel
   have hq1 := hq.out
   have hT := HT.out
   have hS := HS.out
   have hsz := length_lb s
   have b5 : (0 : Int) ≤ (q : Int) := by omega
   have b6 : (q : Int) ≤ 1099511627776 := by omega
   by_cases e1 : q = s.size
   ·have HQE := Lib.hid (show q = t by omega)
    have d1 : decide ((q : Int) < (s.size : Int)) = false := decide_eq_false (by omega)
    have d2 : decide (q < s.size) = false := decide_eq_false (by omega)
    clear hq hq1 hT hS hsz e1
    go_wp2
    go_meet
    case rel => (exact ⟨by rw [HQE.out], ⟨by exact HA.out⟩⟩)
   have hlt : q < s.size := by omega
   have hlt2 : q < (lb s).length := by omega
   have d1 : decide ((q : Int) < (s.size : Int)) = true := decide_eq_true (by omega)
   have p5 : 0 ≤ (q : Int) := b5
   have q5 : (q : Int) < (s.size : Int) := by omega
   have hx5 : ∀ h : q < s.size, ((s[q]'h).toNat : Int) = bt s (q : Int) := fun h => bt_at s ((q : Nat) : Int) h
   have hb5 : bt s (q : Int) = (((lb s)[q].toNat : Nat) : Int) := by rw [bt_lb, Int.toNat_natCast]; simp [at_, List.getD, hlt2]
   have hd := List.drop_eq_getElem_cons hlt2
   rw [hd, wdU] at hq1
   have hsp : sign_Space_o.f (bt s (q : Int)) = some (spaceB (lb s)[q]) := by rw [sign_Space_o.f, hb5]; rfl
   replace p5 := eq_true p5
   replace q5 := eq_true q5
   cases e2 : spaceB (lb s)[q] with
   | true =>
    rw [if_pos e2] at hq1
    have HQE := Lib.hid (show q = t by omega)
    have SP1 := Lib.hid (fun W => sign_Space_o.calls (bt s (q : Int)) true W (by rw [hsp, e2]))
    clear hq hq1 hT hS hsz e1 e2 hlt hlt2 hb5 hd hsp
    go_wp2_with fail
    refine (SP1.out _).mono ?_
    rintro e wq ⟨rfl, ⟨nd, rfl⟩⟩
    go_wp2
    go_meet
    case rel => (exact ⟨by rw [HQE.out], ⟨by repeat (first | (with_reducible exact HA.out) | (with_reducible apply TkA.drewN))⟩⟩)
   | false =>
    rw [if_neg (by rw [e2]; decide)] at hq1
    have SP1 := Lib.hid (fun W => sign_Space_o.calls (bt s (q : Int)) false W (by rw [hsp, e2]))
    by_cases e3 : (lb s)[q] = 47
    ·rw [if_pos (by rw [e3]; decide)] at hq1
     have HQE := Lib.hid (show q = t by omega)
     have d3 : (bt s (q : Int) != 47) = false := by rw [hb5, e3]; rfl
     clear hq hq1 hT hS hsz e1 e2 e3 hlt hlt2 hb5 hd hsp
     go_wp2_with fail
     refine (SP1.out _).mono ?_
     rintro e wq ⟨rfl, ⟨nd, rfl⟩⟩
     go_wp2
     go_meet
     case rel => (exact ⟨by rw [HQE.out], ⟨by repeat (first | (with_reducible exact HA.out) | (with_reducible apply TkA.drewN))⟩⟩)
    have d3 : (bt s (q : Int) != 47) = true := by rw [hb5]; exact bne_iff_ne.2 (fun e => e3 (u8_nat.1 (by show _ = 47; omega)))
    by_cases e4 : (lb s)[q] = 62
    ·rw [if_pos (by rw [e4]; decide)] at hq1
     have HQE := Lib.hid (show q = t by omega)
     have d4 : (bt s (q : Int) != 62) = false := by rw [hb5, e4]; rfl
     clear hq hq1 hT hS hsz e1 e2 e3 e4 hlt hlt2 hb5 hd hsp
     go_wp2_with fail
     refine (SP1.out _).mono ?_
     rintro e wq ⟨rfl, ⟨nd, rfl⟩⟩
     go_wp2
     go_meet
     case rel => (exact ⟨by rw [HQE.out], ⟨by repeat (first | (with_reducible exact HA.out) | (with_reducible apply TkA.drewN))⟩⟩)
    have d4 : (bt s (q : Int) != 62) = true := by rw [hb5]; exact bne_iff_ne.2 (fun e => e4 (u8_nat.1 (by show _ = 62; omega)))
    rw [if_neg (by simp only [List.mem_cons, List.not_mem_nil, or_false, not_or]; exact ⟨e3, e4⟩)] at hq1
    have HK := Lib.hid (show gk = (t - (q + 1)) + 1 by omega)
    have HQ1 := Lib.hid (show f ≤ q + 1 ∧ q + 1 + (t - (q + 1)) = t ∧ q + 1 + wdU [47, 62] ((lb s).drop (q + 1)) = t from ⟨by omega, by omega, by omega⟩)
    clear hq hq1 hT hS hsz e1 e2 e3 e4 hlt hlt2 hb5 hd hsp
    go_wp2_with fail
    refine (SP1.out _).mono ?_
    rintro e wq ⟨rfl, ⟨nd, rfl⟩⟩
    go_wp2
    go_roundg (t - (q + 1))
    case measure => have := HK.out; omega
    case rel => (exact ⟨q + 1, rfl, HQ1, ⟨by repeat (first | (with_reducible exact HA.out) | (with_reducible apply TkA.drewN))⟩⟩)
 case rest =>
  try clear HA c0 c1 c2 c3 c4 f0 f1 f2 f3 f4
  obtain ⟨rfl, HA⟩ := hcut
  go_wp2_with fail
  refine (A1.out _ (HG.out.below (TkA.low HA.out))).mono ?_
  rintro e wq ⟨v0, rfl, ho, hb⟩
  have hsize := below_size (TkA.low (show TkA w _ from by exact HA.out))
  obtain ⟨Ao, co, eo⟩ := Kd.R_slice ho
  subst eo
  have HO := Aside0.mk (Kd.R_lower ho hsize)
  have hA := TkA.below HA.out hb
  clear HA hb
  have HA := Aside0.mk hA
  have c0 := hA.c0
  have c1 := hA.c1
  have c2 := hA.c2
  have c3 := hA.c3
  have c4 := hA.c4
  have f0 := hA.f0 0
  have f1 := hA.f0 1
  have f2 := hA.f0 2
  have f3 := hA.f0 3
  have f4 := hA.f0 4
  clear hA
  clear ho hsize
  go_wp2
  refine bodyPost_ret (results_ctt rfl _ _ w.heap.size 29 #[.int .i64 0, .string ⟨#[]⟩, .string ⟨#[]⟩, .slice none 0 0, .bool false] (0, 0) _ rfl (TkA.put HA.out (.int .i64 0) (.string ⟨#[]⟩) (.string ⟨#[]⟩) (.slice none 0 0) (.bool false)) Tryz.underlying29 rfl (by kernel_rfl)) rfl ?_
  exact ⟨_, rfl, Kd.R_nil _ _ _ _ _, TkA.putB HA.out _ _ _ _ _⟩
theorem tag_Read.start_ (s : ByteArray) (p n f t : Nat) (w : World) (hG : GW w) (hs : s.size ≤ 100000000) (hf : p + n = f) (hfs : f ≤ s.size) (ht : f + wdU [47, 62] ((lb s).drop f) = t) (hn : 1 ≤ n ∧ n ≤ 2) (hN : tag_place_name.f s (p : Int) = some (n : Int)) (la : List S63) (sf : Bool) (m : Nat) (hm : m ≤ s.size) (hk : n = 1) (hA : attrs_Read.f s (t : Int) = some (la, sf, (m : Int), true)) :
 Calls Tryz.prog 24 #[.string s, .int .i64 (p : Int)] w fun e w' => ∃ v3_ : Value, e = .returned (.tuple #[.agg #[.int .i64 1, .string (bs (cleanL (low (((lb s).drop f).take (wdU [47, 62] ((lb s).drop f)))))), .string ⟨#[]⟩, v3_, .bool sf], .int .i64 (m : Int), .bool true]) ∧ Kd.R k63 63 w' w.heap.size (fun _ => True) v3_ la ∧ Below w.heap.size w w' := by
 have HA := Aside0.mk (TkA.new w)
 have HG := Aside0.mk hG
 have hsz := length_lb s
 have hw := wdU_le [47, 62] ((lb s).drop f)
 rw [List.length_drop, hsz] at hw
 have N1 := Lib.hid (fun W => tag_place_name.calls s p n W hN)
 have z0 : ((n : Int) == 0) = false := beq_eq_false_iff_ne.2 (by omega)
 have HQ0 := Lib.hid (show f ≤ f ∧ f + (t - f) = t ∧ f + wdU [47, 62] ((lb s).drop f) = t from ⟨Nat.le_refl _, by omega, ht⟩)
 have HT := Lib.hid (show f ≤ t ∧ t ≤ s.size from ⟨by omega, by omega⟩)
 have HS := Lib.hid hs
 have b1 : (0 : Int) ≤ (p : Int) := by omega
 have b2 : (p : Int) ≤ 1099511627776 := by omega
 have b3 : (1 : Int) ≤ (n : Int) := by omega
 have b4 : (n : Int) ≤ 2 := by omega
 have HF := Lib.hid (show (p : Int) + (n : Int) = (f : Int) by omega)
 have A1 := Lib.hid (fun W g => attrs_Read.calls s (t : Int) la sf (m : Int) true W hA g)
 clear hA
 have z1 : decide ((n : Int) > 1) = false := decide_eq_false (by omega)
 have z2 : decide (1 < n) = false := decide_eq_false (by omega)
 have hnl : ((lb s).drop f).take (t - f) = ((lb s).drop f).take (wdU [47, 62] ((lb s).drop f)) := by rw [show t - f = wdU [47, 62] ((lb s).drop f) by omega]
 have ex : s.extract f t = bs (((lb s).drop f).take (wdU [47, 62] ((lb s).drop f))) := lb_inj (by rw [lb_extract, lb_bs, hnl])
 obtain ⟨x, hx⟩ : ∃ x, ((lb s).drop f).take (wdU [47, 62] ((lb s).drop f)) = x := ⟨_, rfl⟩
 have hxl : x.length ≤ 100000000 := by rw [← hx, List.length_take]; omega
 rw [hx] at ex
 rw [hx]
 have L1 := Lib.hid (fun W => sign_Lower.calls (bs x) (bs (low x)) W (by rw [sign_Lower.f, if_pos (by rw [size_bs]; omega), lowS, lb_bs]))
 have C1 := Lib.hid (fun W g => lines_Clean.calls (bs (low x)) (bs (cleanL (low x))) W (by rw [lines_Clean.f, if_pos (by rw [size_bs, low_length]; omega), lb_bs]) g)
 have hsl1 : ∀ U : World, (Instr.slice 9 (.string s) (some (.int .i64 ((p : Int) + (n : Int)))) (some (.int .i64 (t : Int))) none).run Tryz.prog U = .ok (.string (bs x)) U := fun U => by
  have := run_slice_string (P := Tryz.prog) U 9 s .i64 .i64 ((p : Int) + (n : Int)) (t : Int) Tryz.underlying9 (by omega) (by omega) (by omega)
  rw [show ((p : Int) + (n : Int)).toNat = f by omega, Int.toNat_natCast, ex] at this; exact this
 clear hnl ex hx hxl hm hk
 clear hG hs hsz hw hfs ht hn hN hf
 go_enter Tryz.func24, Tryz.ntmps24
 go_wp2_with fail
 refine (N1.out _).mono ?_
 rintro e wq ⟨rfl, hb⟩
 have hA := TkA.below HA.out hb
 clear HA hb
 have HA := Aside0.mk hA
 have c0 := hA.c0
 have c1 := hA.c1
 have c2 := hA.c2
 have c3 := hA.c3
 have c4 := hA.c4
 have f0 := hA.f0 0
 have f1 := hA.f0 1
 have f2 := hA.f0 2
 have f3 := hA.f0 3
 have f4 := hA.f0 4
 clear hA
 go_upto_block 0 with (fail)
 go_cut [10] (fun v10 wc => v10 = .int .i64 (t : Int) ∧ Aside0 (TkA w wc))
 case first =>
  go_wp2
  go_loopg [10] (t - f) (fun gg v10 w' => ∃ q : Nat, v10 = .int .i64 (q : Int) ∧ Hid (f ≤ q ∧ q + gg = t ∧ q + wdU [47, 62] ((lb s).drop q) = t) ∧ Aside0 (TkA w w'))
  case atStart => exact ⟨f, by rw [← HF.out], HQ0, ⟨by exact HA.out⟩⟩
  case round =>
   clear HA c0 c1 c2 c3 c4 f0 f1 f2 f3 f4
   obtain ⟨q, rfl, hq, HA⟩ := hrel
   have hq1 := hq.out
   have hT := HT.out
   have hS := HS.out
   have hsz := length_lb s
   have b5 : (0 : Int) ≤ (q : Int) := by omega
   have b6 : (q : Int) ≤ 1099511627776 := by omega
   by_cases e1 : q = s.size
   ·have HQE := Lib.hid (show q = t by omega)
    have d1 : decide ((q : Int) < (s.size : Int)) = false := decide_eq_false (by omega)
    have d2 : decide (q < s.size) = false := decide_eq_false (by omega)
    clear hq hq1 hT hS hsz e1
    go_wp2
    go_meet
    case rel => (exact ⟨by rw [HQE.out], ⟨by exact HA.out⟩⟩)
   have hlt : q < s.size := by omega
   have hlt2 : q < (lb s).length := by omega
   have d1 : decide ((q : Int) < (s.size : Int)) = true := decide_eq_true (by omega)
   have p5 : 0 ≤ (q : Int) := b5
   have q5 : (q : Int) < (s.size : Int) := by omega
   have hx5 : ∀ h : q < s.size, ((s[q]'h).toNat : Int) = bt s (q : Int) := fun h => bt_at s ((q : Nat) : Int) h
   have hb5 : bt s (q : Int) = (((lb s)[q].toNat : Nat) : Int) := by rw [bt_lb, Int.toNat_natCast]; simp [at_, List.getD, hlt2]
   have hd := List.drop_eq_getElem_cons hlt2
   rw [hd, wdU] at hq1
   have hsp : sign_Space_o.f (bt s (q : Int)) = some (spaceB (lb s)[q]) := by rw [sign_Space_o.f, hb5]; rfl
   replace p5 := eq_true p5
   replace q5 := eq_true q5
   cases e2 : spaceB (lb s)[q] with
   | true =>
    rw [if_pos e2] at hq1
    have HQE := Lib.hid (show q = t by omega)
    have SP1 := Lib.hid (fun W => sign_Space_o.calls (bt s (q : Int)) true W (by rw [hsp, e2]))
    clear hq hq1 hT hS hsz e1 e2 hlt hlt2 hb5 hd hsp
    go_wp2_with fail
    refine (SP1.out _).mono ?_
    rintro e wq ⟨rfl, ⟨nd, rfl⟩⟩
    go_wp2
    go_meet
    case rel => (exact ⟨by rw [HQE.out], ⟨by repeat (first | (with_reducible exact HA.out) | (with_reducible apply TkA.drewN))⟩⟩)
   | false =>
    rw [if_neg (by rw [e2]; decide)] at hq1
    have SP1 := Lib.hid (fun W => sign_Space_o.calls (bt s (q : Int)) false W (by rw [hsp, e2]))
    by_cases e3 : (lb s)[q] = 47
    ·rw [if_pos (by rw [e3]; decide)] at hq1
     have HQE := Lib.hid (show q = t by omega)
     have d3 : (bt s (q : Int) != 47) = false := by rw [hb5, e3]; rfl
     clear hq hq1 hT hS hsz e1 e2 e3 hlt hlt2 hb5 hd hsp
     go_wp2_with fail
     refine (SP1.out _).mono ?_
     rintro e wq ⟨rfl, ⟨nd, rfl⟩⟩
     go_wp2
     go_meet
     case rel => (exact ⟨by rw [HQE.out], ⟨by repeat (first | (with_reducible exact HA.out) | (with_reducible apply TkA.drewN))⟩⟩)
    have d3 : (bt s (q : Int) != 47) = true := by rw [hb5]; exact bne_iff_ne.2 (fun e => e3 (u8_nat.1 (by show _ = 47; omega)))
    by_cases e4 : (lb s)[q] = 62
    ·rw [if_pos (by rw [e4]; decide)] at hq1
     have HQE := Lib.hid (show q = t by omega)
     have d4 : (bt s (q : Int) != 62) = false := by rw [hb5, e4]; rfl
     clear hq hq1 hT hS hsz e1 e2 e3 e4 hlt hlt2 hb5 hd hsp
     go_wp2_with fail
     refine (SP1.out _).mono ?_
     rintro e wq ⟨rfl, ⟨nd, rfl⟩⟩
     go_wp2
     go_meet
     case rel => (exact ⟨by rw [HQE.out], ⟨by repeat (first | (with_reducible exact HA.out) | (with_reducible apply TkA.drewN))⟩⟩)
    have d4 : (bt s (q : Int) != 62) = true := by rw [hb5]; exact bne_iff_ne.2 (fun e => e4 (u8_nat.1 (by show _ = 62; omega)))
    rw [if_neg (by simp only [List.mem_cons, List.not_mem_nil, or_false, not_or]; exact ⟨e3, e4⟩)] at hq1
    have HK := Lib.hid (show gk = (t - (q + 1)) + 1 by omega)
    have HQ1 := Lib.hid (show f ≤ q + 1 ∧ q + 1 + (t - (q + 1)) = t ∧ q + 1 + wdU [47, 62] ((lb s).drop (q + 1)) = t from ⟨by omega, by omega, by omega⟩)
    clear hq hq1 hT hS hsz e1 e2 e3 e4 hlt hlt2 hb5 hd hsp
    go_wp2_with fail
    refine (SP1.out _).mono ?_
    rintro e wq ⟨rfl, ⟨nd, rfl⟩⟩
    go_wp2
    go_roundg (t - (q + 1))
    case measure => have := HK.out; omega
    case rel => (exact ⟨q + 1, rfl, HQ1, ⟨by repeat (first | (with_reducible exact HA.out) | (with_reducible apply TkA.drewN))⟩⟩)
 case rest =>
  try clear HA c0 c1 c2 c3 c4 f0 f1 f2 f3 f4
  obtain ⟨rfl, HA⟩ := hcut
  go_wp2_with fail
  refine (A1.out _ (HG.out.below (TkA.low HA.out))).mono ?_
  rintro e wq ⟨v0, rfl, ho, hb⟩
  have hsize := below_size (TkA.low (show TkA w _ from by exact HA.out))
  obtain ⟨Ao, co, eo⟩ := Kd.R_slice ho
  subst eo
  have HO := Aside0.mk (Kd.R_lower ho hsize)
  have hA := TkA.below HA.out hb
  clear HA hb
  have HA := Aside0.mk hA
  have c0 := hA.c0
  have c1 := hA.c1
  have c2 := hA.c2
  have c3 := hA.c3
  have c4 := hA.c4
  have f0 := hA.f0 0
  have f1 := hA.f0 1
  have f2 := hA.f0 2
  have f3 := hA.f0 3
  have f4 := hA.f0 4
  clear hA
  clear ho hsize
  go_wp2_with fail
  refine (L1.out _).mono ?_
  rintro e wq ⟨rfl, hb⟩
  have hO := Kd.R_below HO.out hb
  have hA := TkA.below HA.out hb
  clear HA hb c0 c1 c2 c3 c4 f0 f1 f2 f3 f4
  have HA := Aside0.mk hA
  have c0 := hA.c0
  have c1 := hA.c1
  have c2 := hA.c2
  have c3 := hA.c3
  have c4 := hA.c4
  have f0 := hA.f0 0
  have f1 := hA.f0 1
  have f2 := hA.f0 2
  have f3 := hA.f0 3
  have f4 := hA.f0 4
  clear hA
  clear HO
  have HO := Aside0.mk hO
  clear hO
  go_wp2_with fail
  refine (C1.out _ (HG.out.below (TkA.low HA.out))).mono ?_
  rintro e wq ⟨rfl, hb⟩
  have hO := Kd.R_below HO.out hb
  have hA := TkA.below HA.out hb
  clear HA hb c0 c1 c2 c3 c4 f0 f1 f2 f3 f4
  have HA := Aside0.mk hA
  have c0 := hA.c0
  have c1 := hA.c1
  have c2 := hA.c2
  have c3 := hA.c3
  have c4 := hA.c4
  have f0 := hA.f0 0
  have f1 := hA.f0 1
  have f2 := hA.f0 2
  have f3 := hA.f0 3
  have f4 := hA.f0 4
  clear hA
  clear HO
  have HO := Aside0.mk hO
  clear hO
  go_wp2
  refine bodyPost_ret (results_ctt rfl _ _ w.heap.size 29 #[.int .i64 1, .string (bs (cleanL (low x))), .string ⟨#[]⟩, .slice Ao la.length co, .bool sf] (0, 0) _ rfl (TkA.put HA.out (.int .i64 1) (.string (bs (cleanL (low x)))) (.string ⟨#[]⟩) (.slice Ao la.length co) (.bool sf)) Tryz.underlying29 rfl (by kernel_rfl)) rfl ?_
  exact ⟨_, rfl, TkA.putR HA.out HO.out _ _ _ _ _, TkA.putB HA.out _ _ _ _ _⟩
theorem tag_Read.stop_ (s : ByteArray) (p n f t : Nat) (w : World) (hG : GW w) (hs : s.size ≤ 100000000) (hf : p + n = f) (hfs : f ≤ s.size) (ht : f + wdU [47, 62] ((lb s).drop f) = t) (hn : 1 ≤ n ∧ n ≤ 2) (hN : tag_place_name.f s (p : Int) = some (n : Int)) (la : List S63) (sf : Bool) (m : Nat) (hm : m ≤ s.size) (hk : n = 2) (hA : attrs_Read.f s (t : Int) = some (la, sf, (m : Int), true)) :
 Calls Tryz.prog 24 #[.string s, .int .i64 (p : Int)] w fun e w' => ∃ v3_ : Value, e = .returned (.tuple #[.agg #[.int .i64 2, .string (bs (cleanL (low (((lb s).drop f).take (wdU [47, 62] ((lb s).drop f)))))), .string ⟨#[]⟩, v3_, .bool false], .int .i64 (m : Int), .bool true]) ∧ Kd.R k63 63 w' w.heap.size (fun _ => True) v3_ [] ∧ Below w.heap.size w w' := by
 have HA := Aside0.mk (TkA.new w)
 have HG := Aside0.mk hG
 have hsz := length_lb s
 have hw := wdU_le [47, 62] ((lb s).drop f)
 rw [List.length_drop, hsz] at hw
 have N1 := Lib.hid (fun W => tag_place_name.calls s p n W hN)
 have z0 : ((n : Int) == 0) = false := beq_eq_false_iff_ne.2 (by omega)
 have HQ0 := Lib.hid (show f ≤ f ∧ f + (t - f) = t ∧ f + wdU [47, 62] ((lb s).drop f) = t from ⟨Nat.le_refl _, by omega, ht⟩)
 have HT := Lib.hid (show f ≤ t ∧ t ≤ s.size from ⟨by omega, by omega⟩)
 have HS := Lib.hid hs
 have b1 : (0 : Int) ≤ (p : Int) := by omega
 have b2 : (p : Int) ≤ 1099511627776 := by omega
 have b3 : (1 : Int) ≤ (n : Int) := by omega
 have b4 : (n : Int) ≤ 2 := by omega
 have HF := Lib.hid (show (p : Int) + (n : Int) = (f : Int) by omega)
 have A1 := Lib.hid (fun W g => attrs_Read.calls s (t : Int) la sf (m : Int) true W hA g)
 clear hA
 have z1 : decide ((n : Int) > 1) = true := decide_eq_true (by omega)
 have z2 : decide (1 < n) = true := decide_eq_true (by omega)
 have hnl : ((lb s).drop f).take (t - f) = ((lb s).drop f).take (wdU [47, 62] ((lb s).drop f)) := by rw [show t - f = wdU [47, 62] ((lb s).drop f) by omega]
 have ex : s.extract f t = bs (((lb s).drop f).take (wdU [47, 62] ((lb s).drop f))) := lb_inj (by rw [lb_extract, lb_bs, hnl])
 obtain ⟨x, hx⟩ : ∃ x, ((lb s).drop f).take (wdU [47, 62] ((lb s).drop f)) = x := ⟨_, rfl⟩
 have hxl : x.length ≤ 100000000 := by rw [← hx, List.length_take]; omega
 rw [hx] at ex
 rw [hx]
 have L1 := Lib.hid (fun W => sign_Lower.calls (bs x) (bs (low x)) W (by rw [sign_Lower.f, if_pos (by rw [size_bs]; omega), lowS, lb_bs]))
 have C1 := Lib.hid (fun W g => lines_Clean.calls (bs (low x)) (bs (cleanL (low x))) W (by rw [lines_Clean.f, if_pos (by rw [size_bs, low_length]; omega), lb_bs]) g)
 have hsl1 : ∀ U : World, (Instr.slice 9 (.string s) (some (.int .i64 ((p : Int) + (n : Int)))) (some (.int .i64 (t : Int))) none).run Tryz.prog U = .ok (.string (bs x)) U := fun U => by
  have := run_slice_string (P := Tryz.prog) U 9 s .i64 .i64 ((p : Int) + (n : Int)) (t : Int) Tryz.underlying9 (by omega) (by omega) (by omega)
  rw [show ((p : Int) + (n : Int)).toNat = f by omega, Int.toNat_natCast, ex] at this; exact this
 clear hnl ex hx hxl hm hk
 clear hG hs hsz hw hfs ht hn hN hf
 go_enter Tryz.func24, Tryz.ntmps24
 go_wp2_with fail
 refine (N1.out _).mono ?_
 rintro e wq ⟨rfl, hb⟩
 have hA := TkA.below HA.out hb
 clear HA hb
 have HA := Aside0.mk hA
 have c0 := hA.c0
 have c1 := hA.c1
 have c2 := hA.c2
 have c3 := hA.c3
 have c4 := hA.c4
 have f0 := hA.f0 0
 have f1 := hA.f0 1
 have f2 := hA.f0 2
 have f3 := hA.f0 3
 have f4 := hA.f0 4
 clear hA
 go_upto_block 0 with (fail)
 go_cut [10] (fun v10 wc => v10 = .int .i64 (t : Int) ∧ Aside0 (TkA w wc))
 case first =>
  go_wp2
  go_loopg [10] (t - f) (fun gg v10 w' => ∃ q : Nat, v10 = .int .i64 (q : Int) ∧ Hid (f ≤ q ∧ q + gg = t ∧ q + wdU [47, 62] ((lb s).drop q) = t) ∧ Aside0 (TkA w w'))
  case atStart => exact ⟨f, by rw [← HF.out], HQ0, ⟨by exact HA.out⟩⟩
  case round =>
   clear HA c0 c1 c2 c3 c4 f0 f1 f2 f3 f4
   obtain ⟨q, rfl, hq, HA⟩ := hrel
   have hq1 := hq.out
   have hT := HT.out
   have hS := HS.out
   have hsz := length_lb s
   have b5 : (0 : Int) ≤ (q : Int) := by omega
   have b6 : (q : Int) ≤ 1099511627776 := by omega
   by_cases e1 : q = s.size
   ·have HQE := Lib.hid (show q = t by omega)
    have d1 : decide ((q : Int) < (s.size : Int)) = false := decide_eq_false (by omega)
    have d2 : decide (q < s.size) = false := decide_eq_false (by omega)
    clear hq hq1 hT hS hsz e1
    go_wp2
    go_meet
    case rel => (exact ⟨by rw [HQE.out], ⟨by exact HA.out⟩⟩)
   have hlt : q < s.size := by omega
   have hlt2 : q < (lb s).length := by omega
   have d1 : decide ((q : Int) < (s.size : Int)) = true := decide_eq_true (by omega)
   have p5 : 0 ≤ (q : Int) := b5
   have q5 : (q : Int) < (s.size : Int) := by omega
   have hx5 : ∀ h : q < s.size, ((s[q]'h).toNat : Int) = bt s (q : Int) := fun h => bt_at s ((q : Nat) : Int) h
   have hb5 : bt s (q : Int) = (((lb s)[q].toNat : Nat) : Int) := by rw [bt_lb, Int.toNat_natCast]; simp [at_, List.getD, hlt2]
   have hd := List.drop_eq_getElem_cons hlt2
   rw [hd, wdU] at hq1
   have hsp : sign_Space_o.f (bt s (q : Int)) = some (spaceB (lb s)[q]) := by rw [sign_Space_o.f, hb5]; rfl
   replace p5 := eq_true p5
   replace q5 := eq_true q5
   cases e2 : spaceB (lb s)[q] with
   | true =>
    rw [if_pos e2] at hq1
    have HQE := Lib.hid (show q = t by omega)
    have SP1 := Lib.hid (fun W => sign_Space_o.calls (bt s (q : Int)) true W (by rw [hsp, e2]))
    clear hq hq1 hT hS hsz e1 e2 hlt hlt2 hb5 hd hsp
    go_wp2_with fail
    refine (SP1.out _).mono ?_
    rintro e wq ⟨rfl, ⟨nd, rfl⟩⟩
    go_wp2
    go_meet
    case rel => (exact ⟨by rw [HQE.out], ⟨by repeat (first | (with_reducible exact HA.out) | (with_reducible apply TkA.drewN))⟩⟩)
   | false =>
    rw [if_neg (by rw [e2]; decide)] at hq1
    have SP1 := Lib.hid (fun W => sign_Space_o.calls (bt s (q : Int)) false W (by rw [hsp, e2]))
    by_cases e3 : (lb s)[q] = 47
    ·rw [if_pos (by rw [e3]; decide)] at hq1
     have HQE := Lib.hid (show q = t by omega)
     have d3 : (bt s (q : Int) != 47) = false := by rw [hb5, e3]; rfl
     clear hq hq1 hT hS hsz e1 e2 e3 hlt hlt2 hb5 hd hsp
     go_wp2_with fail
     refine (SP1.out _).mono ?_
     rintro e wq ⟨rfl, ⟨nd, rfl⟩⟩
     go_wp2
     go_meet
     case rel => (exact ⟨by rw [HQE.out], ⟨by repeat (first | (with_reducible exact HA.out) | (with_reducible apply TkA.drewN))⟩⟩)
    have d3 : (bt s (q : Int) != 47) = true := by rw [hb5]; exact bne_iff_ne.2 (fun e => e3 (u8_nat.1 (by show _ = 47; omega)))
    by_cases e4 : (lb s)[q] = 62
    ·rw [if_pos (by rw [e4]; decide)] at hq1
     have HQE := Lib.hid (show q = t by omega)
     have d4 : (bt s (q : Int) != 62) = false := by rw [hb5, e4]; rfl
     clear hq hq1 hT hS hsz e1 e2 e3 e4 hlt hlt2 hb5 hd hsp
     go_wp2_with fail
     refine (SP1.out _).mono ?_
     rintro e wq ⟨rfl, ⟨nd, rfl⟩⟩
     go_wp2
     go_meet
     case rel => (exact ⟨by rw [HQE.out], ⟨by repeat (first | (with_reducible exact HA.out) | (with_reducible apply TkA.drewN))⟩⟩)
    have d4 : (bt s (q : Int) != 62) = true := by rw [hb5]; exact bne_iff_ne.2 (fun e => e4 (u8_nat.1 (by show _ = 62; omega)))
    rw [if_neg (by simp only [List.mem_cons, List.not_mem_nil, or_false, not_or]; exact ⟨e3, e4⟩)] at hq1
    have HK := Lib.hid (show gk = (t - (q + 1)) + 1 by omega)
    have HQ1 := Lib.hid (show f ≤ q + 1 ∧ q + 1 + (t - (q + 1)) = t ∧ q + 1 + wdU [47, 62] ((lb s).drop (q + 1)) = t from ⟨by omega, by omega, by omega⟩)
    clear hq hq1 hT hS hsz e1 e2 e3 e4 hlt hlt2 hb5 hd hsp
    go_wp2_with fail
    refine (SP1.out _).mono ?_
    rintro e wq ⟨rfl, ⟨nd, rfl⟩⟩
    go_wp2
    go_roundg (t - (q + 1))
    case measure => have := HK.out; omega
    case rel => (exact ⟨q + 1, rfl, HQ1, ⟨by repeat (first | (with_reducible exact HA.out) | (with_reducible apply TkA.drewN))⟩⟩)
 case rest =>
  try clear HA c0 c1 c2 c3 c4 f0 f1 f2 f3 f4
  obtain ⟨rfl, HA⟩ := hcut
  go_wp2_with fail
  refine (A1.out _ (HG.out.below (TkA.low HA.out))).mono ?_
  rintro e wq ⟨v0, rfl, ho, hb⟩
  have hsize := below_size (TkA.low (show TkA w _ from by exact HA.out))
  obtain ⟨Ao, co, eo⟩ := Kd.R_slice ho
  subst eo
  have HO := Aside0.mk (Kd.R_lower ho hsize)
  have hA := TkA.below HA.out hb
  clear HA hb
  have HA := Aside0.mk hA
  have c0 := hA.c0
  have c1 := hA.c1
  have c2 := hA.c2
  have c3 := hA.c3
  have c4 := hA.c4
  have f0 := hA.f0 0
  have f1 := hA.f0 1
  have f2 := hA.f0 2
  have f3 := hA.f0 3
  have f4 := hA.f0 4
  clear hA
  clear ho hsize
  go_wp2_with fail
  refine (L1.out _).mono ?_
  rintro e wq ⟨rfl, hb⟩
  have hO := Kd.R_below HO.out hb
  have hA := TkA.below HA.out hb
  clear HA hb c0 c1 c2 c3 c4 f0 f1 f2 f3 f4
  have HA := Aside0.mk hA
  have c0 := hA.c0
  have c1 := hA.c1
  have c2 := hA.c2
  have c3 := hA.c3
  have c4 := hA.c4
  have f0 := hA.f0 0
  have f1 := hA.f0 1
  have f2 := hA.f0 2
  have f3 := hA.f0 3
  have f4 := hA.f0 4
  clear hA
  clear HO
  have HO := Aside0.mk hO
  clear hO
  go_wp2_with fail
  refine (C1.out _ (HG.out.below (TkA.low HA.out))).mono ?_
  rintro e wq ⟨rfl, hb⟩
  have hO := Kd.R_below HO.out hb
  have hA := TkA.below HA.out hb
  clear HA hb c0 c1 c2 c3 c4 f0 f1 f2 f3 f4
  have HA := Aside0.mk hA
  have c0 := hA.c0
  have c1 := hA.c1
  have c2 := hA.c2
  have c3 := hA.c3
  have c4 := hA.c4
  have f0 := hA.f0 0
  have f1 := hA.f0 1
  have f2 := hA.f0 2
  have f3 := hA.f0 3
  have f4 := hA.f0 4
  clear hA
  clear HO
  have HO := Aside0.mk hO
  clear hO
  go_wp2
  refine bodyPost_ret (results_ctt rfl _ _ w.heap.size 29 #[.int .i64 2, .string (bs (cleanL (low x))), .string ⟨#[]⟩, .slice none 0 0, .bool false] (0, 0) _ rfl (TkA.put HA.out (.int .i64 2) (.string (bs (cleanL (low x)))) (.string ⟨#[]⟩) (.slice none 0 0) (.bool false)) Tryz.underlying29 rfl (by kernel_rfl)) rfl ?_
  exact ⟨_, rfl, Kd.R_nil _ _ _ _ _, TkA.putB HA.out _ _ _ _ _⟩
theorem tagN_le (l : List UInt8) (p : Int) (h : tagN l p ≠ 0) : ∃ q n : Nat, p = (q : Int) ∧ tagN l p = (n : Int) ∧ 1 ≤ n ∧ n ≤ 2 ∧ q + n < l.length := by
 unfold tagN at h ⊢
 split at h
 ·rename_i hb
  rw [if_pos hb]
  obtain ⟨q, rfl⟩ := Int.eq_ofNat_of_zero_le hb.1
  rw [Int.toNat_natCast] at h ⊢
  have := tagK_le (l.drop q)
  rw [List.length_drop] at this
  have h0 : tagK (l.drop q) ≠ 0 := fun e => h (by rw [e]; rfl)
  rw [if_neg h0] at this
  exact ⟨q, _, rfl, rfl, by omega, this.1, by omega⟩
 ·exact absurd rfl h
theorem finA_len (p : Nat) (u : List UInt8) : (finA [] p u).2.2.1 = ((p + (sc u).2.2.1 : Nat) : Int) := rfl
theorem tag_Read.calls (a0 : ByteArray) (a1 : Int) (r1 : Int) (r2 r3 : ByteArray) (r4 : List S63) (r5 : Bool) (r6 : Int) (r7 : Bool) (w : World) (h : tag_Read.f a0 a1 = some (r1, r2, r3, r4, r5, r6, r7)) (hG : GW w) :
 Calls Tryz.prog 24 #[.string a0, .int .i64 a1] w fun e w' => ∃ v3_ : Value, e = .returned (.tuple #[.agg #[.int .i64 r1, .string r2, .string r3, v3_, .bool r5], .int .i64 r6, .bool r7]) ∧ Kd.R k63 63 w' w.heap.size (fun _ => True) v3_ r4 ∧ Below w.heap.size w w' := by
 unfold tag_Read.f at h
 split at h
 ·rename_i hb
  have h2 := Option.some.inj h
  have hsz := length_lb a0
  have hN : tag_place_name.f a0 a1 = some (tagN (lb a0) a1) := by rw [tag_place_name.f, if_pos (by omega)]
  by_cases c : tagN (lb a0) a1 = 0
  ·rw [if_pos c] at h2
   simp only [Prod.mk.injEq] at h2
   obtain ⟨rfl, rfl, rfl, rfl, rfl, rfl, rfl⟩ := h2
   exact tag_Read.none_ a0 a1 w (by rw [hN, c])
  ·rw [if_neg c] at h2
   obtain ⟨p, n, rfl, e, h1, h3, h4⟩ := tagN_le _ _ c
   rw [e, Int.toNat_natCast, Int.toNat_natCast] at h2
   rw [e] at hN
   have hw := wdU_le [47, 62] ((lb a0).drop (p + n))
   rw [List.length_drop] at hw
   have hr : attrs_Read.f a0 ((p + n + wdU [47, 62] ((lb a0).drop (p + n)) : Nat) : Int) = some (finA [] (p + n + wdU [47, 62] ((lb a0).drop (p + n))) ((lb a0).drop (p + n + wdU [47, 62] ((lb a0).drop (p + n))))) := by
    rw [attrs_Read.f, if_pos ⟨hb.1, by omega, by omega⟩, if_neg (by omega), Int.toNat_natCast]
   have hle := sc_le ((lb a0).drop (p + n + wdU [47, 62] ((lb a0).drop (p + n))))
   rw [List.length_drop] at hle
   have hfl := finA_len (p + n + wdU [47, 62] ((lb a0).drop (p + n))) ((lb a0).drop (p + n + wdU [47, 62] ((lb a0).drop (p + n))))
   unfold tagF at h2
   generalize finA [] (p + n + wdU [47, 62] ((lb a0).drop (p + n))) ((lb a0).drop (p + n + wdU [47, 62] ((lb a0).drop (p + n)))) = F at *
   obtain ⟨la, sf, m', ok⟩ := F
   dsimp only at h2 hfl
   subst hfl
   cases ok with
   | false =>
    rw [if_neg (by decide)] at h2
    simp only [Prod.mk.injEq] at h2
    obtain ⟨rfl, rfl, rfl, rfl, rfl, rfl, rfl⟩ := h2
    rw [hsz]
    exact tag_Read.open_ a0 p n _ _ w hG hb.1 rfl (by omega) rfl ⟨h1, h3⟩ hN la sf _ hr
   | true =>
    rw [if_pos rfl] at h2
    by_cases c1 : n = 1
    ·rw [if_pos c1] at h2
     simp only [Prod.mk.injEq] at h2
     obtain ⟨rfl, rfl, rfl, rfl, rfl, rfl, rfl⟩ := h2
     exact tag_Read.start_ a0 p n _ _ w hG hb.1 rfl (by omega) rfl ⟨h1, h3⟩ hN la sf _ (by omega) c1 hr
    ·rw [if_neg c1] at h2
     simp only [Prod.mk.injEq] at h2
     obtain ⟨rfl, rfl, rfl, rfl, rfl, rfl, rfl⟩ := h2
     exact tag_Read.stop_ a0 p n _ _ w hG hb.1 rfl (by omega) rfl ⟨h1, h3⟩ hN la sf _ (by omega) (by omega) hr
 ·cases h
def comment_Begins.f (a0 : ByteArray) (a1 : Int) : Option (Bool) := (sign_Begins_o.f a0 a1 (⟨#[60, 33]⟩ : ByteArray)).bind fun t165 => (if t165 = true then ((sign_Begins_o.f a0 a1 (⟨#[60, 33, 100, 111, 99, 116, 121, 112, 101]⟩ : ByteArray)).bind fun t166 => (some (!t166))) else ((sign_Begins_o.f a0 a1 (⟨#[60, 63]⟩ : ByteArray)).bind fun t167 => (if t167 = true then (some true) else ((sign_Begins_o.f a0 a1 (⟨#[60, 47]⟩ : ByteArray)).bind fun t168 => (if t168 = true then (if (wrap64 (a1 + 2)) = (a0.size : Int) then (some false) else (if 0 ≤ (wrap64 (a1 + 2)) then (if (wrap64 (a1 + 2)) < (a0.size : Int) then (if (bt a0 (wrap64 (a1 + 2))) = 62 then (some false) else ((sign_Letter_o.f (bt a0 (wrap64 (a1 + 2)))).bind fun t169 => (some (!t169)))) else (none)) else (none))) else (some false))))))
theorem comment_Begins.calls (a0 : ByteArray) (a1 : Int) (r : Bool) (w : World) (h : comment_Begins.f a0 a1 = some r) :
 Calls Tryz.prog 25 #[.string a0, .int .i64 a1] w fun e w' => e = .returned (.bool r) ∧ Below w.heap.size w w' := by
 have HB := Aside0.mk (Below.refl w.heap.size w)
 have hx := bt_at
 have H := h
 clear h
 unfold comment_Begins.f at H
 with_reducible repeat' (first | (replace H := bnd H; obtain ⟨t, A, H⟩ := H) | (replace H := splB H; rcases H with ⟨rfl, H⟩ | ⟨rfl, H⟩) | (replace H := splN H; obtain ⟨⟨_, _, _⟩, H⟩ := H) | (replace H := spl H; rcases H with ⟨⟨_, _, _⟩, H⟩ | ⟨⟨_, _, _⟩, H⟩))
 all_goals
  with_reducible replace H := Option.some.inj H
  subst H
  go_enter Tryz.func25, Tryz.ntmps25
  go_wp2_with (first
   | ((with_reducible refine gate_callee (f := 29) rfl ?_); refine callB Tryz.func29 (fun h => sign_Begins_o.calls (w := _) (h := h)) ?_; clear HB; intro wq HB)
   | (go_at_call 50; refine atD (fun h => sign_Letter_o.calls (w := _) (h := h)) ?_; intro nd))
  all_goals (go_ret; exact ⟨eqr, bw⟩)
def comment_Begins_o.f (a0 : ByteArray) (a1 : Int) : Option Bool := if a0.size ≤ 1099511627776 then some (decide (0 ≤ a1 ∧ a1 ≤ (lb a0).length) && comB ((lb a0).drop a1.toNat)) else none
theorem comment_Begins_o.sound (a0 : ByteArray) (a1 : Int) (r : Bool) (h : comment_Begins_o.f a0 a1 = some r) : comment_Begins.f a0 a1 = some r := by
 unfold comment_Begins_o.f at h
 split at h
 ·rename_i hs
  have e : ∀ v : ByteArray, v.size ≤ 1099511627776 → sign_Begins_o.f a0 a1 v = some (decide (0 ≤ a1 ∧ a1 ≤ (lb a0).length) && pf (lb v) ((lb a0).drop a1.toNat)) := fun v hv => by rw [sign_Begins_o.f, if_pos ⟨hs, hv⟩, begL_pf]
  have hl := length_lb a0
  rw [← h, comment_Begins.f, e _ (by decide), e _ (by decide), e _ (by decide), e _ (by decide), Option.bind_some]
  rw [show lb (⟨#[60, 33]⟩ : ByteArray) = [60, 33] from rfl, show lb (⟨#[60, 33, 100, 111, 99, 116, 121, 112, 101]⟩ : ByteArray) = [60, 33, 100, 111, 99, 116, 121, 112, 101] from rfl, show lb (⟨#[60, 63]⟩ : ByteArray) = [60, 63] from rfl, show lb (⟨#[60, 47]⟩ : ByteArray) = [60, 47] from rfl]
  by_cases c : 0 ≤ a1 ∧ a1 ≤ (lb a0).length
  ·obtain ⟨p, rfl⟩ := Int.eq_ofNat_of_zero_le c.1
   rw [decide_eq_true c, Int.toNat_natCast, comB, docB]
   simp only [Bool.true_and]
   cases h1 : pf [60, 33] ((lb a0).drop p)
   ·simp only [Bool.false_eq_true, if_false, Option.bind_some]
    cases h2 : pf [60, 63] ((lb a0).drop p)
    ·simp only [Bool.false_eq_true, if_false, Option.bind_some]
     cases h3 : pf [60, 47] ((lb a0).drop p)
     ·rfl
     ·have h4 := pf_len h3
      rw [List.length_drop] at h4
      simp only [List.length_cons, List.length_nil] at h4
      simp only [if_true]
      rw [w64 (by omega) (by omega), List.drop_drop]
      by_cases c5 : p + 2 < (lb a0).length
      ·have hr := bt_range a0 ((p : Int) + 2)
       have hat : bt a0 ((p : Int) + 2) = (((lb a0)[p + 2].toNat : Nat) : Int) := by rw [bt_lb, show ((p : Int) + 2).toNat = p + 2 by omega]; simp [at_, List.getD, c5]
       rw [if_neg (by omega), if_pos (by omega), if_pos (by omega), List.drop_eq_getElem_cons c5]
       simp only []
       rw [hat] at hr ⊢
       by_cases c6 : (lb a0)[p + 2] = 62
       ·rw [if_pos (by rw [c6]; rfl), c6]; rfl
       ·rw [if_neg (fun e => c6 (u8_nat.1 (by show (lb a0)[p + 2].toNat = 62; omega))), sign_Letter_o.f, if_pos hr, Option.bind_some, bne_iff_ne.2 c6]; rfl
      ·rw [if_pos (by omega), List.drop_of_length_le (by omega)]
    ·rfl
   ·rfl
  ·rw [decide_eq_false c]; rfl
 ·cases h
theorem comment_Begins_o.calls (a0 : ByteArray) (a1 : Int) (r : Bool) (w : World) (h : comment_Begins_o.f a0 a1 = some r) :
 Calls Tryz.prog 25 #[.string a0, .int .i64 a1] w fun e w' => e = .returned (.bool r) ∧ Below w.heap.size w w' := by
 have hk := comment_Begins_o.sound _ _ _ h
 exact comment_Begins.calls a0 a1 r w hk
def stringslite_HasPrefix.f (a0 : ByteArray) (a1 : ByteArray) : Option (Bool) := if (a0.size : Int) ≥ (a1.size : Int) then (if 0 ≤ (a1.size : Int) then (if (a1.size : Int) ≤ (a0.size : Int) then (some ((a0.extract 0 ((a1.size : Int) : Int).toNat).toList == a1.toList)) else (none)) else (none)) else (some false)
theorem stringslite_HasPrefix.calls (a0 : ByteArray) (a1 : ByteArray) (r : Bool) (w : World) (h : stringslite_HasPrefix.f a0 a1 = some r) :
 Calls Tryz.prog 100 #[.string a0, .string a1] w fun e w' => e = .returned (.bool r) ∧ Drawn0 w w' := by
 have H : (if (a0.size : Int) ≥ (a1.size : Int) then (if 0 ≤ (a1.size : Int) then (if (a1.size : Int) ≤ (a0.size : Int) then (some ((a0.extract 0 ((a1.size : Int) : Int).toNat).toList == a1.toList)) else (none)) else (none)) else (some false)) = some r := h
 clear h
 by_cases c3 : (a0.size : Int) ≥ (a1.size : Int)
 ·rw [if_pos c3] at H
  have c3b0 : decide ((a1.size : Int) ≤ (a0.size : Int)) = true := decide_eq_true c3
  have c3b1 : decide (a1.size ≤ a0.size) = true := decide_eq_true (Int.ofNat_le.mp c3)
  clear c3
  by_cases c4 : 0 ≤ (a1.size : Int)
  ·rw [if_pos c4] at H
   have c4b0 := eq_true c4
   have c4b1 : decide (0 ≤ (a1.size : Int)) = true := decide_eq_true c4
   clear c4
   by_cases c5 : (a1.size : Int) ≤ (a0.size : Int)
   ·rw [if_pos c5] at H
    have c5b0 := eq_true c5
    have c5b1 : decide ((a1.size : Int) ≤ (a0.size : Int)) = true := decide_eq_true c5
    clear c5
    obtain rfl := Option.some.inj H
    go_enter Tryz.func100, Tryz.ntmps100
    go_wp2
    all_goals (go_ret; exact ⟨by rfl, by repeat (exact Drawn0.refl _)⟩)
   ·rw [if_neg c5] at H
    exact absurd H (by simp)
  ·rw [if_neg c4] at H
   exact absurd H (by simp)
 ·rw [if_neg c3] at H
  have c3b0 : decide ((a1.size : Int) ≤ (a0.size : Int)) = false := decide_eq_false c3
  have c3b1 : decide (a1.size ≤ a0.size) = false := decide_eq_false (fun h => c3 (Int.ofNat_le.mpr h))
  clear c3
  obtain rfl := Option.some.inj H
  go_enter Tryz.func100, Tryz.ntmps100
  go_wp2
  all_goals (go_ret; exact ⟨by rfl, by repeat (exact Drawn0.refl _)⟩)
def strings_HasPrefix.f (a0 : ByteArray) (a1 : ByteArray) : Option (Bool) := (stringslite_HasPrefix.f a0 a1).bind fun t170 => (some t170)
theorem strings_HasPrefix.calls (a0 : ByteArray) (a1 : ByteArray) (r : Bool) (w : World) (h : strings_HasPrefix.f a0 a1 = some r) :
 Calls Tryz.prog 81 #[.string a0, .string a1] w fun e w' => e = .returned (.bool r) ∧ Drawn0 w w' := by
 have H : ((stringslite_HasPrefix.f a0 a1).bind fun t170 => (some t170)) = some r := h
 clear h
 obtain ⟨t170, A3, H⟩ := bnd H
 obtain rfl := Option.some.inj H
 go_enter Tryz.func81, Tryz.ntmps81
 go_wp2_with (((with_reducible refine gate_callee (f := 100) rfl ?_); refine goesM Tryz.func100 #[.string a0, .string a1] ?_; (with_reducible refine (stringslite_HasPrefix.calls a0 a1 t170 _ A3.out).mono ?_); rintro e w' ⟨rfl, ⟨nd, rfl⟩⟩; refine ⟨_, rfl, ?_⟩))
 all_goals (go_ret; exact ⟨by rfl, by repeat (first | exact Drawn0.refl _ | apply Drawn0.step)⟩)
def stringslite_CutSuffix.f (a0 : ByteArray) (a1 : ByteArray) : Option (ByteArray × Bool) := (stringslite_HasSuffix.f a0 a1).bind fun t171 => (if t171 = true then (if 0 ≤ (wrap64 ((a0.size : Int) - (a1.size : Int))) then (if (wrap64 ((a0.size : Int) - (a1.size : Int))) ≤ (a0.size : Int) then (some (a0.extract 0 ((wrap64 ((a0.size : Int) - (a1.size : Int))) : Int).toNat, true)) else (none)) else (none)) else (some (a0, false)))
theorem stringslite_CutSuffix.calls (a0 : ByteArray) (a1 : ByteArray) (r1 : ByteArray) (r2 : Bool) (w : World) (h : stringslite_CutSuffix.f a0 a1 = some (r1, r2)) :
 Calls Tryz.prog 101 #[.string a0, .string a1] w fun e w' => e = .returned (.tuple #[.string r1, .bool r2]) ∧ Drawn0 w w' := by
 have hx := bt_at
 have H := h
 clear h
 unfold stringslite_CutSuffix.f at H
 with_reducible repeat' (first | (replace H := bnd H; obtain ⟨t, A, H⟩ := H) | (replace H := splB H; rcases H with ⟨rfl, H⟩ | ⟨rfl, H⟩) | (replace H := splN H; obtain ⟨⟨_, _, _⟩, H⟩ := H))
 all_goals
  with_reducible replace H := Option.some.inj H
  simp only [Prod.mk.injEq] at H
  obtain ⟨rfl, rfl⟩ := H
  go_enter Tryz.func101, Tryz.ntmps101
  go_wp2_with (((with_reducible refine gate_callee (f := 120) rfl ?_); refine callD Tryz.func120 (fun h => stringslite_HasSuffix.calls (w := _) (h := h)) ?_; intro nd))
  all_goals (go_ret2; exact ⟨eqr, by repeat (first | exact Drawn0.refl _ | apply Drawn0.step)⟩)
def strings_CutSuffix.f (a0 : ByteArray) (a1 : ByteArray) : Option (ByteArray × Bool) := (stringslite_CutSuffix.f a0 a1).bind fun bt172 => (some (bt172.1, bt172.2))
theorem strings_CutSuffix.calls (a0 : ByteArray) (a1 : ByteArray) (r1 : ByteArray) (r2 : Bool) (w : World) (h : strings_CutSuffix.f a0 a1 = some (r1, r2)) :
 Calls Tryz.prog 82 #[.string a0, .string a1] w fun e w' => e = .returned (.tuple #[.string r1, .bool r2]) ∧ Drawn0 w w' := by
 have H : ((stringslite_CutSuffix.f a0 a1).bind fun bt172 => (some (bt172.1, bt172.2))) = some (r1, r2) := h
 clear h
 obtain ⟨⟨t172, t173⟩, A3, H⟩ := bnd H
 dsimp only at H
 simp only [Option.some.injEq, Prod.mk.injEq] at H
 obtain ⟨rfl, rfl⟩ := H
 go_enter Tryz.func82, Tryz.ntmps82
 go_wp2_with (((with_reducible refine gate_callee (f := 101) rfl ?_); refine goesM Tryz.func101 #[.string a0, .string a1] ?_; (with_reducible refine (stringslite_CutSuffix.calls a0 a1 t172 t173 _ A3.out).mono ?_); rintro e w' ⟨rfl, ⟨nd, rfl⟩⟩; refine ⟨_, rfl, ?_⟩))
 all_goals (go_ret2; exact ⟨by rfl, by repeat (first | exact Drawn0.refl _ | apply Drawn0.step)⟩)
def stC (u e1 e2 : List UInt8) : Nat → Int × Nat
 | 0 => (-1, 0)
 | 1 => if 0 ≤ Lib.index u e1 then (Lib.index u e1, (Lib.index u e1).toNat + e1.length) else (-1, 0)
 | _ => cutI u e1 e2
theorem stC_two (u e1 e2 : List UInt8) : stC u e1 e2 2 = if 0 ≤ Lib.index u e2 ∧ ((stC u e1 e2 1).1 < 0 ∨ Lib.index u e2 < (stC u e1 e2 1).1) then (Lib.index u e2, (Lib.index u e2).toNat + e2.length) else stC u e1 e2 1 := rfl
theorem max_len {w W : World} (hG : GW w) (hb : Below w.heap.size w W) : ∃ m, W.cell? ⟨0, 0, none⟩ = some (.int .i64 m) := (hG.below hb).2
theorem index_C {w W : World} (hG : GW w) (hb : Below w.heap.size w W) (s e : ByteArray) (hs : s.size ≤ 4294967280) (k : Int) (hk : Lib.index (lb s) (lb e) = k) : Calls Tryz.prog 99 #[.string s, .string e] W fun x w' => x = .returned (.int .i64 k) ∧ w' = W := by
 obtain ⟨m, hm⟩ := max_len hG hb
 subst hk
 exact Tryz.strings_Index s e m W (by omega) hm
theorem comment_cut.calls (s e1 e2 : ByteArray) (w : World) (hG : GW w) (hs : s.size ≤ 1000000000 ∧ e1.size ≤ 100 ∧ e2.size ≤ 100) :
 Calls Tryz.prog 80 #[.string s, .agg #[.string e1, .string e2]] w fun e w' => e = .returned (.tuple #[.string (bs (cutU (lb s) (lb e1) (lb e2)).1), .int .i64 ((cutU (lb s) (lb e1) (lb e2)).2.1 : Int), .bool (cutU (lb s) (lb e1) (lb e2)).2.2]) ∧ Below w.heap.size w w' := by
 have HB := Aside0.mk (Below.refl w.heap.size w)
 have HG := Aside0.mk hG
 have HS := Lib.hid hs
 obtain ⟨k1, hk1⟩ : ∃ k, Lib.index (lb s) (lb e1) = k := ⟨_, rfl⟩
 obtain ⟨k2, hk2⟩ : ∃ k, Lib.index (lb s) (lb e2) = k := ⟨_, rfl⟩
 have I1 := Lib.hid (fun (W : World) (hb : Below w.heap.size w W) => index_C hG hb s e1 (by omega) k1 hk1)
 have I2 := Lib.hid (fun (W : World) (hb : Below w.heap.size w W) => index_C hG hb s e2 (by omega) k2 hk2)
 have g1 := Lib.index_ge (lb s) (lb e1)
 have g2 := Lib.index_ge (lb s) (lb e2)
 have r1 := Lib.index_room (lb s) (lb e1)
 have r2 := Lib.index_room (lb s) (lb e2)
 rw [hk1, length_lb, length_lb] at r1
 rw [hk2, length_lb, length_lb] at r2
 rw [hk1] at g1
 rw [hk2] at g2
 have HK1 := Lib.hid hk1
 have HK2 := Lib.hid hk2
 have HR := Lib.hid (show (0 ≤ k1 → k1 + e1.size ≤ s.size) ∧ (0 ≤ k2 → k2 + e2.size ≤ s.size) ∧ -1 ≤ k1 ∧ -1 ≤ k2 from ⟨r1, r2, g1, g2⟩)
 clear hG hs hk1 hk2 g1 g2 r1 r2
 have ix0 : ∀ W, (Instr.index 77 (.agg #[.string e1, .string e2]) (.int .i64 0)).run Tryz.prog W = .ok (.string e1) W := fun W => by kernel_rfl
 have ix1 : ∀ W, (Instr.index 77 (.agg #[.string e1, .string e2]) (.int .i64 1)).run Tryz.prog W = .ok (.string e2) W := fun W => by kernel_rfl
 go_enter Tryz.func80, Tryz.ntmps80
 go_wp2
 go_loopg [5, 7, 12] 2 (fun gg v5 v7 v12 w' => ∃ (i : Nat) (a : Int) (n : Nat), v5 = .int .i64 (n : Int) ∧ v7 = .int .i64 a ∧ v12 = .int .i64 (i : Int) ∧ Hid (i + gg = 2 ∧ (a, n) = stC (lb s) (lb e1) (lb e2) i) ∧ Aside0 (Below w.heap.size w w'))
 case atStart => exact ⟨0, -1, 0, rfl, rfl, rfl, Lib.hid ⟨rfl, rfl⟩, ⟨bw⟩⟩
 case round =>
  clear HB
  obtain ⟨i, a, n, rfl, rfl, rfl, hq, HB⟩ := hrel
  have hq1 := hq.out
  have hr := HR.out
  have hS := HS.out
  have hk1 := HK1.out
  have hk2 := HK2.out
  match i, hq1 with
  | 0, hq1 =>
   have e0 : (a, (n : Nat)) = ((-1, 0) : Int × Nat) := hq1.2
   rw [Prod.mk.injEq] at e0
   obtain ⟨rfl, rfl⟩ := e0
   have HK := Lib.hid (show gk = 1 + 1 by omega)
   by_cases c : 0 ≤ k1
   ·have HQ := Lib.hid (show (k1, k1.toNat + (lb e1).length) = stC (lb s) (lb e1) (lb e2) 1 from by show _ = (if 0 ≤ Lib.index (lb s) (lb e1) then _ else _); rw [hk1, if_pos c])
    have HN := Lib.hid (show k1 + (e1.size : Int) = ((k1.toNat + (lb e1).length : Nat) : Int) by rw [length_lb]; omega)
    have d1 : decide (k1 ≥ 0) = true := decide_eq_true c
    have d2 : decide (0 ≤ k1) = true := decide_eq_true c
    have b1 : (0 : Int) ≤ k1 := c
    have b2 : k1 ≤ 1099511627776 := by have := hr.1 c; omega
    have b3 : (e1.size : Int) ≤ 100 := by omega
    have b4 : (0 : Int) ≤ (e1.size : Int) := by omega
    clear hq hq1 hr hS hk1 hk2 c
    go_wp2_with fail
    refine (I1.out _ HB.out).mono ?_
    rintro e wq ⟨rfl, rfl⟩
    go_wp2
    go_roundg 1
    case measure => have := HK.out; omega
    case rel => (exact ⟨1, k1, _, by rw [HN.out], rfl, rfl, Lib.hid ⟨by rfl, HQ.out⟩, ⟨by exact HB.out⟩⟩)
   ·have HQ := Lib.hid (show ((-1 : Int), 0) = stC (lb s) (lb e1) (lb e2) 1 from by show _ = (if 0 ≤ Lib.index (lb s) (lb e1) then _ else _); rw [hk1, if_neg c])
    have d1 : decide (k1 ≥ 0) = false := decide_eq_false c
    have d2 : decide (0 ≤ k1) = false := decide_eq_false c
    clear hq hq1 hr hS hk1 hk2 c
    go_wp2_with fail
    refine (I1.out _ HB.out).mono ?_
    rintro e wq ⟨rfl, rfl⟩
    go_wp2
    go_roundg 1
    case measure => have := HK.out; omega
    case rel => (exact ⟨1, -1, 0, rfl, rfl, rfl, Lib.hid ⟨by rfl, HQ.out⟩, ⟨by exact HB.out⟩⟩)
  | 1, hq1 =>
   have h1 : (a, n) = stC (lb s) (lb e1) (lb e2) 1 := hq1.2
   have h2 := stC_two (lb s) (lb e1) (lb e2)
   rw [← h1, hk2] at h2
   have HK := Lib.hid (show gk = 0 + 1 by omega)
   by_cases c : 0 ≤ k2
   ·have d1 : decide (k2 ≥ 0) = true := decide_eq_true c
    have d2 : decide (0 ≤ k2) = true := decide_eq_true c
    have b1 : (0 : Int) ≤ k2 := c
    have b2 : k2 ≤ 1099511627776 := by have := hr.2.1 c; omega
    have b3 : (e2.size : Int) ≤ 100 := by omega
    have b4 : (0 : Int) ≤ (e2.size : Int) := by omega
    have HN := Lib.hid (show k2 + (e2.size : Int) = ((k2.toNat + (lb e2).length : Nat) : Int) by rw [length_lb]; omega)
    by_cases c1 : a < 0
    ·have HQ := Lib.hid (show (k2, k2.toNat + (lb e2).length) = stC (lb s) (lb e1) (lb e2) 2 from by rw [h2, if_pos ⟨c, .inl c1⟩])
     have d3 : decide (a < 0) = true := decide_eq_true c1
     clear hq hq1 hr hS hk1 hk2 c c1 h1 h2
     go_wp2_with fail
     refine (I2.out _ HB.out).mono ?_
     rintro e wq ⟨rfl, rfl⟩
     go_wp2
     go_roundg 0
     case measure => have := HK.out; omega
     case rel => (exact ⟨2, k2, _, by rw [HN.out], rfl, rfl, Lib.hid ⟨by rfl, HQ.out⟩, ⟨by exact HB.out⟩⟩)
    ·have d3 : decide (a < 0) = false := decide_eq_false c1
     by_cases c2 : k2 < a
     ·have HQ := Lib.hid (show (k2, k2.toNat + (lb e2).length) = stC (lb s) (lb e1) (lb e2) 2 from by rw [h2, if_pos ⟨c, .inr c2⟩])
      have d4 : decide (k2 < a) = true := decide_eq_true c2
      clear hq hq1 hr hS hk1 hk2 c c1 c2 h1 h2
      go_wp2_with fail
      refine (I2.out _ HB.out).mono ?_
      rintro e wq ⟨rfl, rfl⟩
      go_wp2
      go_roundg 0
      case measure => have := HK.out; omega
      case rel => (exact ⟨2, k2, _, by rw [HN.out], rfl, rfl, Lib.hid ⟨by rfl, HQ.out⟩, ⟨by exact HB.out⟩⟩)
     ·have HQ := Lib.hid (show (a, n) = stC (lb s) (lb e1) (lb e2) 2 from by rw [h2, if_neg (by rintro ⟨_, x | x⟩; exact c1 x; exact c2 x)])
      have d4 : decide (k2 < a) = false := decide_eq_false c2
      clear hq hq1 hr hS hk1 hk2 c c1 c2 h1 h2
      go_wp2_with fail
      refine (I2.out _ HB.out).mono ?_
      rintro e wq ⟨rfl, rfl⟩
      go_wp2
      go_roundg 0
      case measure => have := HK.out; omega
      case rel => (exact ⟨2, a, n, rfl, rfl, rfl, Lib.hid ⟨by rfl, HQ.out⟩, ⟨by exact HB.out⟩⟩)
   ·have HQ := Lib.hid (show (a, n) = stC (lb s) (lb e1) (lb e2) 2 from by rw [h2, if_neg (fun x => c x.1)])
    have d1 : decide (k2 ≥ 0) = false := decide_eq_false c
    have d2 : decide (0 ≤ k2) = false := decide_eq_false c
    clear hq hq1 hr hS hk1 hk2 c h1 h2
    go_wp2_with fail
    refine (I2.out _ HB.out).mono ?_
    rintro e wq ⟨rfl, rfl⟩
    go_wp2
    go_roundg 0
    case measure => have := HK.out; omega
    case rel => (exact ⟨2, a, n, rfl, rfl, rfl, Lib.hid ⟨by rfl, HQ.out⟩, ⟨by exact HB.out⟩⟩)
  | i + 2, hq1 =>
   have hi : i = 0 := by omega
   subst hi
   have h2 : (a, n) = cutI (lb s) (lb e1) (lb e2) := hq1.2
   have hc := cutI_is (lb s) (lb e1) (lb e2)
   rw [← h2, length_lb] at hc
   by_cases c : a < 0
   ·have d3 : decide (a < 0) = true := decide_eq_true c
    have HF := Lib.hid (show cutU (lb s) (lb e1) (lb e2) = ([], s.size, false) by unfold cutU; rw [← h2, if_pos c, length_lb])
    clear hq hq1 hr hS hk1 hk2 c h2 hc
    go_wp2
    go_ret3 
    exact ⟨by rw [HF.out]; rfl, by exact HB.out⟩
   ·have d3 : decide (a < 0) = false := decide_eq_false c
    have HF := Lib.hid (show cutU (lb s) (lb e1) (lb e2) = ((lb s).take a.toNat, n, true) by unfold cutU; rw [← h2, if_neg c])
    have hb : 0 ≤ a ∧ a ≤ (s.size : Int) := by
     rcases hc with x | ⟨j, x1, x2, _⟩
     ·rw [Prod.mk.injEq] at x; omega
     ·have x3 : a = (j : Int) := x1
      omega
    have hsl : ∀ U : World, (Instr.slice 9 (.string s) none (some (.int .i64 a)) none).run Tryz.prog U = .ok (.string (bs ((lb s).take a.toNat))) U := fun U => by
     have e : s.extract 0 a.toNat = bs ((lb s).take a.toNat) := lb_inj (by rw [lb_extract, lb_bs]; simp)
     rw [run_slice_string_to_if _ 9 s .i64 a Tryz.underlying9, if_pos hb, e]
    clear hq hq1 hr hS hk1 hk2 c h2 hc hb
    go_wp2
    go_ret3 
    exact ⟨by rw [HF.out]; rfl, by exact HB.out⟩
theorem prefix_C (s p : ByteArray) (hs : s.size ≤ 1000000000 ∧ p.size ≤ 100) : strings_HasPrefix.f s p = some ((lb p).isPrefixOf (lb s)) := by
 have hp : ((lb p).isPrefixOf (lb s)) = decide (p.size ≤ s.size ∧ (lb s).take p.size = lb p) := by
  rw [Bool.eq_iff_iff, decide_eq_true_eq, List.isPrefixOf_iff_prefix, List.prefix_iff_eq_take, length_lb]
  constructor
  ·intro e
   refine ⟨?_, e.symm⟩
   have := congrArg List.length e
   rw [List.length_take, length_lb, length_lb] at this; omega
  ·exact fun e => e.2.symm
 have he : (s.extract 0 p.size).toList = (lb s).take p.size := by rw [toList_lb, lb_extract]; simp
 rw [strings_HasPrefix.f, stringslite_HasPrefix.f, hp]
 by_cases c : p.size ≤ s.size
 ·rw [if_pos (by omega), if_pos (by omega), if_pos (by omega), Int.toNat_natCast, he, toList_lb, Option.bind_some]
  congr 1
  rw [Bool.eq_iff_iff, beq_iff_eq, decide_eq_true_eq]
  exact ⟨fun e => ⟨c, e⟩, fun e => e.2⟩
 ·rw [if_neg (by omega), Option.bind_some, decide_eq_false (fun x => c x.1)]
theorem suffix_C (s p : ByteArray) (hs : s.size ≤ 1000000000 ∧ p.size ≤ 100) : strings_CutSuffix.f s p = some (if endsU (lb s) (lb p) = true then bs ((lb s).take ((lb s).length - (lb p).length)) else s, endsU (lb s) (lb p)) := by
 have hp : endsU (lb s) (lb p) = decide (p.size ≤ s.size ∧ (lb s).drop (s.size - p.size) = lb p) := by
  unfold endsU
  rw [Bool.eq_iff_iff, decide_eq_true_eq, List.isSuffixOf_iff_suffix, List.suffix_iff_eq_drop, length_lb, length_lb]
  constructor
  ·intro e
   refine ⟨?_, e.symm⟩
   have := congrArg List.length e
   rw [List.length_drop, length_lb, length_lb] at this; omega
  ·exact fun e => e.2.symm
 rw [strings_CutSuffix.f, stringslite_CutSuffix.f, stringslite_HasSuffix.f, hp, length_lb, length_lb]
 by_cases c : p.size ≤ s.size
 ·have he : (s.extract (s.size - p.size) s.size).toList = (lb s).drop (s.size - p.size) := by rw [toList_lb, lb_extract, List.take_of_length_le (by rw [List.length_drop, length_lb]; omega)]
  have hx : s.extract 0 (s.size - p.size) = bs ((lb s).take (s.size - p.size)) := lb_inj (by rw [lb_extract, lb_bs]; simp)
  have e1 : wrap64 ((s.size : Int) - (p.size : Int)) = ((s.size - p.size : Nat) : Int) := by rw [w64 (by omega) (by omega)]; omega
  rw [if_pos (by omega), e1, if_pos (by omega), if_pos (by omega), Int.toNat_natCast, he, toList_lb, Option.bind_some]
  by_cases d : (lb s).drop (s.size - p.size) = lb p
  ·rw [d, beq_self_eq_true, if_pos rfl, if_pos (by omega), if_pos (by omega), hx, Option.bind_some, decide_eq_true ⟨c, rfl⟩, if_pos rfl]
  ·rw [beq_false_of_ne d, if_neg (by decide), Option.bind_some, decide_eq_false (fun x => d x.2), if_neg (by decide)]
 ·rw [if_neg (by omega), Option.bind_some, if_neg (by decide), Option.bind_some, decide_eq_false (fun x => c x.1), if_neg (by decide)]
theorem comment_other.calls (s : ByteArray) (w : World) (hG : GW w) (hs : s.size ≤ 1000000000) :
 Calls Tryz.prog 51 #[.string s] w fun e w' => e = .returned (.tuple #[.string (bs (otherC (lb s)).1), .int .i64 ((otherC (lb s)).2 : Int)]) ∧ Below w.heap.size w w' := by
 have HB := Aside0.mk (Below.refl w.heap.size w)
 have HG := Aside0.mk hG
 have C1 := Lib.hid (fun (W : World) (g : GW W) => comment_cut.calls s ⟨#[62]⟩ ⟨#[62]⟩ W g ⟨hs, by decide, by decide⟩)
 have ho : otherC (lb s) = if (cutU (lb s) [62] [62]).2.2 = true then ((cutU (lb s) [62] [62]).1, (cutU (lb s) [62] [62]).2.1) else (lb s, s.size) := by unfold otherC; rw [length_lb]
 have el : lb (⟨#[62]⟩ : ByteArray) = [62] := rfl
 rw [el] at C1
 generalize cutU (lb s) [62] [62] = X at C1 ho
 obtain ⟨x, n, o⟩ := X
 cases o with
 | true =>
  have HO := Lib.hid (ho.trans (if_pos rfl))
  clear hG hs ho el
  go_enter Tryz.func51, Tryz.ntmps51
  go_wp2_with fail
  refine gmono (C1.out _) (HG.out.below HB.out) ?_
  rintro e wq ⟨rfl, hb⟩
  have n0_ := Aside0.mk (below_step HB.out hb)
  clear HB
  have HB := n0_
  clear n0_ hb
  go_wp2
  go_ret2 
  exact ⟨by rw [HO.out]; rfl, by exact HB.out⟩
 | false =>
  have HO := Lib.hid (ho.trans (if_neg (fun h => Bool.noConfusion h)))
  clear hG hs ho el
  go_enter Tryz.func51, Tryz.ntmps51
  go_wp2_with fail
  refine gmono (C1.out _) (HG.out.below HB.out) ?_
  rintro e wq ⟨rfl, hb⟩
  have n0_ := Aside0.mk (below_step HB.out hb)
  clear HB
  have HB := n0_
  clear n0_ hb
  go_wp2
  go_ret2 
  exact ⟨by rw [HO.out, bs_lb]; rfl, by exact HB.out⟩
theorem comment_plain.calls (s : ByteArray) (w : World) (hG : GW w) (hs : s.size ≤ 1000000000) :
 Calls Tryz.prog 52 #[.string s] w fun e w' => e = .returned (.tuple #[.string (bs (plainC (lb s)).1), .int .i64 ((plainC (lb s)).2 : Int)]) ∧ Below w.heap.size w w' := by
 have HB := Aside0.mk (Below.refl w.heap.size w)
 have HG := Aside0.mk hG
 have C1 := Lib.hid (fun (W : World) (g : GW W) => comment_cut.calls s ⟨#[45, 45, 62]⟩ ⟨#[45, 45, 33, 62]⟩ W g ⟨hs, by decide, by decide⟩)
 have el : lb (⟨#[45, 45, 62]⟩ : ByteArray) = [45, 45, 62] := rfl
 have el2 : lb (⟨#[45, 45, 33, 62]⟩ : ByteArray) = [45, 45, 33, 62] := rfl
 rw [el, el2] at C1
 have A1 := fun W => strings_HasPrefix.calls s ⟨#[62]⟩ _ W (prefix_C s ⟨#[62]⟩ ⟨hs, by decide⟩)
 have A2 := fun W => strings_HasPrefix.calls s ⟨#[45, 62]⟩ _ W (prefix_C s ⟨#[45, 62]⟩ ⟨hs, by decide⟩)
 have B1 := fun W => strings_CutSuffix.calls s ⟨#[45, 45, 33]⟩ _ _ W (suffix_C s ⟨#[45, 45, 33]⟩ ⟨hs, by decide⟩)
 have B2 := fun W => strings_CutSuffix.calls s ⟨#[45, 45]⟩ _ _ W (suffix_C s ⟨#[45, 45]⟩ ⟨hs, by decide⟩)
 have B3 := fun W => strings_CutSuffix.calls s ⟨#[45]⟩ _ _ W (suffix_C s ⟨#[45]⟩ ⟨hs, by decide⟩)
 have q1 : lb (⟨#[62]⟩ : ByteArray) = [62] := rfl
 have q2 : lb (⟨#[45, 62]⟩ : ByteArray) = [45, 62] := rfl
 have q3 : lb (⟨#[45, 45, 33]⟩ : ByteArray) = [45, 45, 33] := rfl
 have q4 : lb (⟨#[45, 45]⟩ : ByteArray) = [45, 45] := rfl
 have q5 : lb (⟨#[45]⟩ : ByteArray) = [45] := rfl
 rw [q1] at A1
 rw [q2] at A2
 rw [q3] at B1
 rw [q4] at B2
 rw [q5] at B3
 have hp : plainC (lb s) = if [62].isPrefixOf (lb s) = true then ([], 1) else if [45, 62].isPrefixOf (lb s) = true then ([], 2)
  else if (cutU (lb s) [45, 45, 62] [45, 45, 33, 62]).2.2 = true then ((cutU (lb s) [45, 45, 62] [45, 45, 33, 62]).1, (cutU (lb s) [45, 45, 62] [45, 45, 33, 62]).2.1)
  else if endsU (lb s) [45, 45, 33] = true then ((lb s).take ((lb s).length - 3), s.size)
  else if endsU (lb s) [45, 45] = true then ((lb s).take ((lb s).length - 2), s.size)
  else if endsU (lb s) [45] = true then ((lb s).take ((lb s).length - 1), s.size)
  else (lb s, s.size) := by unfold plainC; simp only [length_lb]
 generalize cutU (lb s) [45, 45, 62] [45, 45, 33, 62] = X at C1 hp
 obtain ⟨x, n, o⟩ := X
 generalize [62].isPrefixOf (lb s) = p1 at A1 hp
 generalize [45, 62].isPrefixOf (lb s) = p2 at A2 hp
 generalize endsU (lb s) [45, 45, 33] = s1 at B1 hp
 generalize endsU (lb s) [45, 45] = s2 at B2 hp
 generalize endsU (lb s) [45] = s3 at B3 hp
 have HP := Lib.hid hp
 have H1 := Lib.hid A1
 have H2 := Lib.hid A2
 have H3 := Lib.hid B1
 have H4 := Lib.hid B2
 have H5 := Lib.hid B3
 clear hG hs el el2 A1 A2 B1 B2 B3 q1 q2 q3 q4 q5 hp
 have ix0 : ∀ W, (Instr.index 77 (.agg #[.string (⟨#[62]⟩ : ByteArray), .string (⟨#[45, 62]⟩ : ByteArray)]) (.int .i64 0)).run Tryz.prog W = .ok (.string (⟨#[62]⟩ : ByteArray)) W := fun W => by kernel_rfl
 have ix1 : ∀ W, (Instr.index 77 (.agg #[.string (⟨#[62]⟩ : ByteArray), .string (⟨#[45, 62]⟩ : ByteArray)]) (.int .i64 1)).run Tryz.prog W = .ok (.string (⟨#[45, 62]⟩ : ByteArray)) W := fun W => by kernel_rfl
 have iy0 : ∀ W, (Instr.index 78 (.agg #[.string (⟨#[45, 45, 33]⟩ : ByteArray), .string (⟨#[45, 45]⟩ : ByteArray), .string (⟨#[45]⟩ : ByteArray)]) (.int .i64 0)).run Tryz.prog W = .ok (.string (⟨#[45, 45, 33]⟩ : ByteArray)) W := fun W => by kernel_rfl
 have iy1 : ∀ W, (Instr.index 78 (.agg #[.string (⟨#[45, 45, 33]⟩ : ByteArray), .string (⟨#[45, 45]⟩ : ByteArray), .string (⟨#[45]⟩ : ByteArray)]) (.int .i64 1)).run Tryz.prog W = .ok (.string (⟨#[45, 45]⟩ : ByteArray)) W := fun W => by kernel_rfl
 have iy2 : ∀ W, (Instr.index 78 (.agg #[.string (⟨#[45, 45, 33]⟩ : ByteArray), .string (⟨#[45, 45]⟩ : ByteArray), .string (⟨#[45]⟩ : ByteArray)]) (.int .i64 2)).run Tryz.prog W = .ok (.string (⟨#[45]⟩ : ByteArray)) W := fun W => by kernel_rfl
 go_enter Tryz.func52, Tryz.ntmps52
 go_wp2
 go_loopg [14] 2 (fun gg v14 w' => ∃ i : Nat, v14 = .int .i64 (i : Int) ∧ Hid (i + gg = 2 ∧ (1 ≤ i → p1 = false) ∧ (2 ≤ i → p2 = false)) ∧ Aside0 (Below w.heap.size w w'))
 case atStart => exact ⟨0, rfl, Lib.hid ⟨rfl, fun h => absurd h (by decide), fun h => absurd h (by decide)⟩, ⟨by exact HB.out⟩⟩
 case round =>
  clear HB
  obtain ⟨i, rfl, hq, HB⟩ := hrel
  have hq1 := hq.out
  match i, hq1 with
  | 0, hq1 =>
   have HK := Lib.hid (show gk = 1 + 1 by omega)
   clear hq hq1
   cases p1 with
   | true =>
    have HF := Lib.hid (HP.out.trans (if_pos rfl))
    clear HP
    go_wp2_with fail
    refine (H1.out _).mono ?_
    rintro e wq ⟨rfl, ⟨nd, rfl⟩⟩
    go_wp2
    go_ret2 
    exact ⟨by rw [HF.out]; rfl, bw⟩
   | false =>
    go_wp2_with fail
    refine (H1.out _).mono ?_
    rintro e wq ⟨rfl, ⟨nd, rfl⟩⟩
    go_wp2
    go_roundg 1
    case measure => have := HK.out; omega
    case rel => (exact ⟨1, rfl, Lib.hid ⟨rfl, fun _ => by trivial, fun h => absurd h (by decide)⟩, ⟨bw⟩⟩)
  | 1, hq1 =>
   obtain rfl := hq1.2.1 (Nat.le_refl _)
   have HK := Lib.hid (show gk = 0 + 1 by omega)
   clear hq hq1
   cases p2 with
   | true =>
    have HF := Lib.hid (HP.out.trans ((if_neg (by decide)).trans (if_pos rfl)))
    clear HP
    go_wp2_with fail
    refine (H2.out _).mono ?_
    rintro e wq ⟨rfl, ⟨nd, rfl⟩⟩
    go_wp2
    go_ret2 
    exact ⟨by rw [HF.out]; rfl, bw⟩
   | false =>
    go_wp2_with fail
    refine (H2.out _).mono ?_
    rintro e wq ⟨rfl, ⟨nd, rfl⟩⟩
    go_wp2
    go_roundg 0
    case measure => have := HK.out; omega
    case rel => (exact ⟨2, rfl, Lib.hid ⟨rfl, fun _ => by trivial, fun _ => by trivial⟩, ⟨bw⟩⟩)
  | i + 2, hq1 =>
   have hi : i = 0 := by omega
   subst hi
   obtain rfl := hq1.2.1 (by omega)
   obtain rfl := hq1.2.2 (by omega)
   clear hq hq1
   have hp2 := HP.out.trans ((if_neg (by decide)).trans (if_neg (by decide)))
   clear HP
   cases o with
   | true =>
    have HF := Lib.hid (hp2.trans (if_pos rfl))
    clear hp2
    go_wp2_with fail
    refine gmono (C1.out _) (HG.out.below HB.out) ?_
    rintro e wq ⟨rfl, hb⟩
    have n0_ := Aside0.mk (below_step HB.out hb)
    clear HB
    have HB := n0_
    clear n0_ hb
    go_wp2
    go_ret2 
    exact ⟨by rw [HF.out]; rfl, by exact HB.out⟩
   | false =>
    have HP := Lib.hid (hp2.trans (if_neg (by decide)))
    clear hp2
    go_wp2_with fail
    refine gmono (C1.out _) (HG.out.below HB.out) ?_
    rintro e wq ⟨rfl, hb⟩
    have n0_ := Aside0.mk (below_step HB.out hb)
    clear HB
    have HB := n0_
    clear n0_ hb
    go_wp2
    go_loopg [34] 3 (fun gg v34 w' => ∃ i : Nat, v34 = .int .i64 (i : Int) ∧ Hid (i + gg = 3 ∧ (1 ≤ i → s1 = false) ∧ (2 ≤ i → s2 = false) ∧ (3 ≤ i → s3 = false)) ∧ Aside0 (Below w.heap.size w w'))
    case atStart => exact ⟨0, rfl, Lib.hid ⟨rfl, fun h => absurd h (by decide), fun h => absurd h (by decide), fun h => absurd h (by decide)⟩, ⟨by exact HB.out⟩⟩
    case round =>
     clear HB
     obtain ⟨i, rfl, hq, HB⟩ := hrel
     have hq1 := hq.out
     match i, hq1 with
     | 0, hq1 =>
      have HK := Lib.hid (show gk = 2 + 1 by omega)
      clear hq hq1
      cases s1 with
      | true =>
       have HF := Lib.hid (HP.out.trans (if_pos rfl))
       clear HP
       go_wp2_with fail
       refine (H3.out _).mono ?_
       rintro e wq ⟨rfl, ⟨nd, rfl⟩⟩
       go_wp2
       go_ret2 
       exact ⟨by rw [HF.out]; rfl, bw⟩
      | false =>
       go_wp2_with fail
       refine (H3.out _).mono ?_
       rintro e wq ⟨rfl, ⟨nd, rfl⟩⟩
       go_wp2
       go_roundg 2
       case measure => have := HK.out; omega
       case rel => (exact ⟨1, rfl, Lib.hid ⟨rfl, fun _ => by trivial, fun h => absurd h (by decide), fun h => absurd h (by decide)⟩, ⟨bw⟩⟩)
     | 1, hq1 =>
      obtain rfl := hq1.2.1 (Nat.le_refl _)
      have HK := Lib.hid (show gk = 1 + 1 by omega)
      clear hq hq1
      cases s2 with
      | true =>
       have HF := Lib.hid (HP.out.trans ((if_neg (by decide)).trans (if_pos rfl)))
       clear HP
       go_wp2_with fail
       refine (H4.out _).mono ?_
       rintro e wq ⟨rfl, ⟨nd, rfl⟩⟩
       go_wp2
       go_ret2 
       exact ⟨by rw [HF.out]; rfl, bw⟩
      | false =>
       go_wp2_with fail
       refine (H4.out _).mono ?_
       rintro e wq ⟨rfl, ⟨nd, rfl⟩⟩
       go_wp2
       go_roundg 1
       case measure => have := HK.out; omega
       case rel => (exact ⟨2, rfl, Lib.hid ⟨rfl, fun _ => by trivial, fun _ => by trivial, fun h => absurd h (by decide)⟩, ⟨bw⟩⟩)
     | 2, hq1 =>
      obtain rfl := hq1.2.1 (by omega)
      obtain rfl := hq1.2.2.1 (Nat.le_refl _)
      have HK := Lib.hid (show gk = 0 + 1 by omega)
      clear hq hq1
      cases s3 with
      | true =>
       have HF := Lib.hid (HP.out.trans ((if_neg (by decide)).trans ((if_neg (by decide)).trans (if_pos rfl))))
       clear HP
       go_wp2_with fail
       refine (H5.out _).mono ?_
       rintro e wq ⟨rfl, ⟨nd, rfl⟩⟩
       go_wp2
       go_ret2 
       exact ⟨by rw [HF.out]; rfl, bw⟩
      | false =>
       go_wp2_with fail
       refine (H5.out _).mono ?_
       rintro e wq ⟨rfl, ⟨nd, rfl⟩⟩
       go_wp2
       go_roundg 0
       case measure => have := HK.out; omega
       case rel => (exact ⟨3, rfl, Lib.hid ⟨rfl, fun _ => by trivial, fun _ => by trivial, fun _ => by trivial⟩, ⟨bw⟩⟩)
     | i + 3, hq1 =>
      have hi : i = 0 := by omega
      subst hi
      obtain rfl := hq1.2.1 (by omega)
      obtain rfl := hq1.2.2.1 (by omega)
      obtain rfl := hq1.2.2.2 (by omega)
      have HF := Lib.hid (HP.out.trans ((if_neg (by decide)).trans ((if_neg (by decide)).trans (if_neg (by decide)))))
      clear hq hq1 HP
      go_wp2
      go_ret2 
      exact ⟨by rw [HF.out, bs_lb]; rfl, by exact HB.out⟩
/- the walk -/
theorem comment_Read.none_ (s : ByteArray) (a1 : Int) (w : World) (hN : comment_Begins_o.f s a1 = some false) : Calls Tryz.prog 26 #[.string s, .int .i64 a1] w fun e w' => ∃ v3_ : Value, e = .returned (.tuple #[.agg #[.int .i64 0, .string ⟨#[]⟩, .string ⟨#[]⟩, v3_, .bool false], .int .i64 a1, .bool false]) ∧ Kd.R k63 63 w' w.heap.size (fun _ => True) v3_ [] ∧ Below w.heap.size w w' := by
 have HA := Aside0.mk (TkA.new w)
 have N1 := Lib.hid (fun W => comment_Begins_o.calls s a1 false W hN)
 clear hN
 go_enter Tryz.func26, Tryz.ntmps26
 go_wp2_with fail
 refine (N1.out _).mono ?_
 rintro e wq ⟨rfl, hb⟩
 have hA := TkA.below HA.out hb
 clear HA hb
 have HA := Aside0.mk hA
 have c0 := hA.c0
 have c1 := hA.c1
 have c2 := hA.c2
 have c3 := hA.c3
 have c4 := hA.c4
 have f0 := hA.f0 0
 have f1 := hA.f0 1
 have f2 := hA.f0 2
 have f3 := hA.f0 3
 have f4 := hA.f0 4
 clear hA
 go_wp2
 refine bodyPost_ret (results_ctt rfl _ _ w.heap.size 29 #[.int .i64 0, .string ⟨#[]⟩, .string ⟨#[]⟩, .slice none 0 0, .bool false] (0, 0) _ rfl (TkA.put HA.out (.int .i64 0) (.string ⟨#[]⟩) (.string ⟨#[]⟩) (.slice none 0 0) (.bool false)) Tryz.underlying29 rfl (by kernel_rfl)) rfl ?_
 exact ⟨_, rfl, Kd.R_nil _ _ _ _ _, TkA.putB HA.out _ _ _ _ _⟩
theorem comment_Read.plain_ (s : ByteArray) (p : Nat) (w : World) (hG : GW w) (hs : s.size ≤ 1000000000) (hp : p + 4 ≤ s.size) (hN : comment_Begins_o.f s (p : Int) = some true) (h1 : sign_Begins_o.f s (p : Int) ⟨#[60, 33, 45, 45]⟩ = some true) :
 Calls Tryz.prog 26 #[.string s, .int .i64 (p : Int)] w fun e w' => ∃ v3_ : Value, e = .returned (.tuple #[.agg #[.int .i64 3, .string ⟨#[]⟩, .string (bs (cleanL (plainC ((lb s).drop (p + 4))).1)), v3_, .bool false], .int .i64 ((p : Int) + 4 + ((plainC ((lb s).drop (p + 4))).2 : Int)), .bool true]) ∧ Kd.R k63 63 w' w.heap.size (fun _ => True) v3_ [] ∧ Below w.heap.size w w' := by
 have HA := Aside0.mk (TkA.new w)
 have HG := Aside0.mk hG
 have hsz := length_lb s
 have N1 := Lib.hid (fun W => comment_Begins_o.calls s (p : Int) true W hN)
 have B1 := Lib.hid (fun W => sign_Begins_o.calls s (p : Int) ⟨#[60, 33, 45, 45]⟩ true W h1)
 have hl := plainC_le ((lb s).drop (p + 4))
 rw [List.length_drop, hsz] at hl
 have R1 := fun (W : World) (g : GW W) => comment_plain.calls (bs ((lb s).drop (p + 4))) W g (by rw [size_bs, List.length_drop]; omega)
 simp only [lb_bs] at R1
 have hsl : ∀ U : World, (Instr.slice 9 (.string s) (some (.int .i64 ((p : Int) + 4))) none none).run Tryz.prog U = .ok (.string (bs ((lb s).drop (p + 4)))) U := fun U => by
  have e : s.extract (p + 4) s.size = bs ((lb s).drop (p + 4)) := lb_inj (by rw [lb_extract, lb_bs, List.take_of_length_le (by rw [List.length_drop]; omega)])
  rw [run_slice_string_from_if _ _ _ _ _ Tryz.underlying9, if_pos ⟨by omega, by omega⟩, show ((p : Int) + 4).toNat = p + 4 by omega, e]
 generalize plainC ((lb s).drop (p + 4)) = X at R1 hl ⊢
 obtain ⟨x, n⟩ := X
 dsimp only at R1 hl ⊢
 have R2 := Lib.hid R1
 have L1 := Lib.hid (fun (W : World) (g : GW W) => lines_Clean.calls (bs x) (bs (cleanL x)) W (by rw [lines_Clean.f, if_pos (by rw [size_bs]; omega), lb_bs]) g)
 have b1 : (0 : Int) ≤ (p : Int) := by omega
 have b2 : (p : Int) ≤ 1099511627776 := by omega
 have b3 : (0 : Int) ≤ (n : Int) := by omega
 have b4 : (n : Int) ≤ 1099511627776 := by omega
 clear hG hs hp hN h1 hsz hl R1
 go_enter Tryz.func26, Tryz.ntmps26
 go_wp2_with fail
 refine (N1.out _).mono ?_
 rintro e wq ⟨rfl, hb⟩
 have hA := TkA.below HA.out hb
 clear HA hb
 have HA := Aside0.mk hA
 have c0 := hA.c0
 have c1 := hA.c1
 have c2 := hA.c2
 have c3 := hA.c3
 have c4 := hA.c4
 have f0 := hA.f0 0
 have f1 := hA.f0 1
 have f2 := hA.f0 2
 have f3 := hA.f0 3
 have f4 := hA.f0 4
 clear hA
 go_wp2_with fail
 refine (B1.out _).mono ?_
 rintro e wq ⟨rfl, hb⟩
 have hA := TkA.below HA.out hb
 clear HA hb c0 c1 c2 c3 c4 f0 f1 f2 f3 f4
 have HA := Aside0.mk hA
 have c0 := hA.c0
 have c1 := hA.c1
 have c2 := hA.c2
 have c3 := hA.c3
 have c4 := hA.c4
 have f0 := hA.f0 0
 have f1 := hA.f0 1
 have f2 := hA.f0 2
 have f3 := hA.f0 3
 have f4 := hA.f0 4
 clear hA
 go_wp2_with fail
 refine (R2.out _ (HG.out.below (TkA.low HA.out))).mono ?_
 rintro e wq ⟨rfl, hb⟩
 have hA := TkA.below HA.out hb
 clear HA hb c0 c1 c2 c3 c4 f0 f1 f2 f3 f4
 have HA := Aside0.mk hA
 have c0 := hA.c0
 have c1 := hA.c1
 have c2 := hA.c2
 have c3 := hA.c3
 have c4 := hA.c4
 have f0 := hA.f0 0
 have f1 := hA.f0 1
 have f2 := hA.f0 2
 have f3 := hA.f0 3
 have f4 := hA.f0 4
 clear hA
 go_wp2_with fail
 refine (L1.out _ (HG.out.below (TkA.low HA.out))).mono ?_
 rintro e wq ⟨rfl, hb⟩
 have hA := TkA.below HA.out hb
 clear HA hb c0 c1 c2 c3 c4 f0 f1 f2 f3 f4
 have HA := Aside0.mk hA
 have c0 := hA.c0
 have c1 := hA.c1
 have c2 := hA.c2
 have c3 := hA.c3
 have c4 := hA.c4
 have f0 := hA.f0 0
 have f1 := hA.f0 1
 have f2 := hA.f0 2
 have f3 := hA.f0 3
 have f4 := hA.f0 4
 clear hA
 go_wp2
 refine bodyPost_ret (results_ctt rfl _ _ w.heap.size 29 #[.int .i64 3, .string ⟨#[]⟩, .string (bs (cleanL x)), .slice none 0 0, .bool false] (0, 0) _ rfl (TkA.put HA.out (.int .i64 3) (.string ⟨#[]⟩) (.string (bs (cleanL x))) (.slice none 0 0) (.bool false)) Tryz.underlying29 rfl (by kernel_rfl)) rfl ?_
 exact ⟨_, rfl, Kd.R_nil _ _ _ _ _, TkA.putB HA.out _ _ _ _ _⟩
theorem comment_Read.short_ (s : ByteArray) (p : Nat) (w : World) (hG : GW w) (hs : s.size ≤ 1000000000) (hp : p + 1 ≤ s.size) (hN : comment_Begins_o.f s (p : Int) = some true) (h1 : sign_Begins_o.f s (p : Int) ⟨#[60, 33, 45, 45]⟩ = some false) (h2 : sign_Begins_o.f s (p : Int) ⟨#[60, 63]⟩ = some true) :
 Calls Tryz.prog 26 #[.string s, .int .i64 (p : Int)] w fun e w' => ∃ v3_ : Value, e = .returned (.tuple #[.agg #[.int .i64 3, .string ⟨#[]⟩, .string (bs (cleanL (otherC ((lb s).drop (p + 1))).1)), v3_, .bool false], .int .i64 ((p : Int) + 1 + ((otherC ((lb s).drop (p + 1))).2 : Int)), .bool true]) ∧ Kd.R k63 63 w' w.heap.size (fun _ => True) v3_ [] ∧ Below w.heap.size w w' := by
 have HA := Aside0.mk (TkA.new w)
 have HG := Aside0.mk hG
 have hsz := length_lb s
 have N1 := Lib.hid (fun W => comment_Begins_o.calls s (p : Int) true W hN)
 have B1 := Lib.hid (fun W => sign_Begins_o.calls s (p : Int) ⟨#[60, 33, 45, 45]⟩ false W h1)
 have B2 := Lib.hid (fun W => sign_Begins_o.calls s (p : Int) ⟨#[60, 63]⟩ true W h2)
 have hl := otherC_le ((lb s).drop (p + 1))
 rw [List.length_drop, hsz] at hl
 have R1 := fun (W : World) (g : GW W) => comment_other.calls (bs ((lb s).drop (p + 1))) W g (by rw [size_bs, List.length_drop]; omega)
 simp only [lb_bs] at R1
 have hsl : ∀ U : World, (Instr.slice 9 (.string s) (some (.int .i64 ((p : Int) + 1))) none none).run Tryz.prog U = .ok (.string (bs ((lb s).drop (p + 1)))) U := fun U => by
  have e : s.extract (p + 1) s.size = bs ((lb s).drop (p + 1)) := lb_inj (by rw [lb_extract, lb_bs, List.take_of_length_le (by rw [List.length_drop]; omega)])
  rw [run_slice_string_from_if _ _ _ _ _ Tryz.underlying9, if_pos ⟨by omega, by omega⟩, show ((p : Int) + 1).toNat = p + 1 by omega, e]
 generalize otherC ((lb s).drop (p + 1)) = X at R1 hl ⊢
 obtain ⟨x, n⟩ := X
 dsimp only at R1 hl ⊢
 have R2 := Lib.hid R1
 have L1 := Lib.hid (fun (W : World) (g : GW W) => lines_Clean.calls (bs x) (bs (cleanL x)) W (by rw [lines_Clean.f, if_pos (by rw [size_bs]; omega), lb_bs]) g)
 have b1 : (0 : Int) ≤ (p : Int) := by omega
 have b2 : (p : Int) ≤ 1099511627776 := by omega
 have b3 : (0 : Int) ≤ (n : Int) := by omega
 have b4 : (n : Int) ≤ 1099511627776 := by omega
 clear hG hs hp hN h1 h2 hsz hl R1
 go_enter Tryz.func26, Tryz.ntmps26
 go_wp2_with fail
 refine (N1.out _).mono ?_
 rintro e wq ⟨rfl, hb⟩
 have hA := TkA.below HA.out hb
 clear HA hb
 have HA := Aside0.mk hA
 have c0 := hA.c0
 have c1 := hA.c1
 have c2 := hA.c2
 have c3 := hA.c3
 have c4 := hA.c4
 have f0 := hA.f0 0
 have f1 := hA.f0 1
 have f2 := hA.f0 2
 have f3 := hA.f0 3
 have f4 := hA.f0 4
 clear hA
 go_wp2_with fail
 refine (B1.out _).mono ?_
 rintro e wq ⟨rfl, hb⟩
 have hA := TkA.below HA.out hb
 clear HA hb c0 c1 c2 c3 c4 f0 f1 f2 f3 f4
 have HA := Aside0.mk hA
 have c0 := hA.c0
 have c1 := hA.c1
 have c2 := hA.c2
 have c3 := hA.c3
 have c4 := hA.c4
 have f0 := hA.f0 0
 have f1 := hA.f0 1
 have f2 := hA.f0 2
 have f3 := hA.f0 3
 have f4 := hA.f0 4
 clear hA
 go_wp2_with fail
 refine (B2.out _).mono ?_
 rintro e wq ⟨rfl, hb⟩
 have hA := TkA.below HA.out hb
 clear HA hb c0 c1 c2 c3 c4 f0 f1 f2 f3 f4
 have HA := Aside0.mk hA
 have c0 := hA.c0
 have c1 := hA.c1
 have c2 := hA.c2
 have c3 := hA.c3
 have c4 := hA.c4
 have f0 := hA.f0 0
 have f1 := hA.f0 1
 have f2 := hA.f0 2
 have f3 := hA.f0 3
 have f4 := hA.f0 4
 clear hA
 go_wp2_with fail
 refine (R2.out _ (HG.out.below (TkA.low HA.out))).mono ?_
 rintro e wq ⟨rfl, hb⟩
 have hA := TkA.below HA.out hb
 clear HA hb c0 c1 c2 c3 c4 f0 f1 f2 f3 f4
 have HA := Aside0.mk hA
 have c0 := hA.c0
 have c1 := hA.c1
 have c2 := hA.c2
 have c3 := hA.c3
 have c4 := hA.c4
 have f0 := hA.f0 0
 have f1 := hA.f0 1
 have f2 := hA.f0 2
 have f3 := hA.f0 3
 have f4 := hA.f0 4
 clear hA
 go_wp2_with fail
 refine (L1.out _ (HG.out.below (TkA.low HA.out))).mono ?_
 rintro e wq ⟨rfl, hb⟩
 have hA := TkA.below HA.out hb
 clear HA hb c0 c1 c2 c3 c4 f0 f1 f2 f3 f4
 have HA := Aside0.mk hA
 have c0 := hA.c0
 have c1 := hA.c1
 have c2 := hA.c2
 have c3 := hA.c3
 have c4 := hA.c4
 have f0 := hA.f0 0
 have f1 := hA.f0 1
 have f2 := hA.f0 2
 have f3 := hA.f0 3
 have f4 := hA.f0 4
 clear hA
 go_wp2
 refine bodyPost_ret (results_ctt rfl _ _ w.heap.size 29 #[.int .i64 3, .string ⟨#[]⟩, .string (bs (cleanL x)), .slice none 0 0, .bool false] (0, 0) _ rfl (TkA.put HA.out (.int .i64 3) (.string ⟨#[]⟩) (.string (bs (cleanL x))) (.slice none 0 0) (.bool false)) Tryz.underlying29 rfl (by kernel_rfl)) rfl ?_
 exact ⟨_, rfl, Kd.R_nil _ _ _ _ _, TkA.putB HA.out _ _ _ _ _⟩
theorem comment_Read.other_ (s : ByteArray) (p : Nat) (w : World) (hG : GW w) (hs : s.size ≤ 1000000000) (hp : p + 2 ≤ s.size) (hN : comment_Begins_o.f s (p : Int) = some true) (h1 : sign_Begins_o.f s (p : Int) ⟨#[60, 33, 45, 45]⟩ = some false) (h2 : sign_Begins_o.f s (p : Int) ⟨#[60, 63]⟩ = some false) :
 Calls Tryz.prog 26 #[.string s, .int .i64 (p : Int)] w fun e w' => ∃ v3_ : Value, e = .returned (.tuple #[.agg #[.int .i64 3, .string ⟨#[]⟩, .string (bs (cleanL (otherC ((lb s).drop (p + 2))).1)), v3_, .bool false], .int .i64 ((p : Int) + 2 + ((otherC ((lb s).drop (p + 2))).2 : Int)), .bool true]) ∧ Kd.R k63 63 w' w.heap.size (fun _ => True) v3_ [] ∧ Below w.heap.size w w' := by
 have HA := Aside0.mk (TkA.new w)
 have HG := Aside0.mk hG
 have hsz := length_lb s
 have N1 := Lib.hid (fun W => comment_Begins_o.calls s (p : Int) true W hN)
 have B1 := Lib.hid (fun W => sign_Begins_o.calls s (p : Int) ⟨#[60, 33, 45, 45]⟩ false W h1)
 have B2 := Lib.hid (fun W => sign_Begins_o.calls s (p : Int) ⟨#[60, 63]⟩ false W h2)
 have hl := otherC_le ((lb s).drop (p + 2))
 rw [List.length_drop, hsz] at hl
 have R1 := fun (W : World) (g : GW W) => comment_other.calls (bs ((lb s).drop (p + 2))) W g (by rw [size_bs, List.length_drop]; omega)
 simp only [lb_bs] at R1
 have hsl : ∀ U : World, (Instr.slice 9 (.string s) (some (.int .i64 ((p : Int) + 2))) none none).run Tryz.prog U = .ok (.string (bs ((lb s).drop (p + 2)))) U := fun U => by
  have e : s.extract (p + 2) s.size = bs ((lb s).drop (p + 2)) := lb_inj (by rw [lb_extract, lb_bs, List.take_of_length_le (by rw [List.length_drop]; omega)])
  rw [run_slice_string_from_if _ _ _ _ _ Tryz.underlying9, if_pos ⟨by omega, by omega⟩, show ((p : Int) + 2).toNat = p + 2 by omega, e]
 generalize otherC ((lb s).drop (p + 2)) = X at R1 hl ⊢
 obtain ⟨x, n⟩ := X
 dsimp only at R1 hl ⊢
 have R2 := Lib.hid R1
 have L1 := Lib.hid (fun (W : World) (g : GW W) => lines_Clean.calls (bs x) (bs (cleanL x)) W (by rw [lines_Clean.f, if_pos (by rw [size_bs]; omega), lb_bs]) g)
 have b1 : (0 : Int) ≤ (p : Int) := by omega
 have b2 : (p : Int) ≤ 1099511627776 := by omega
 have b3 : (0 : Int) ≤ (n : Int) := by omega
 have b4 : (n : Int) ≤ 1099511627776 := by omega
 clear hG hs hp hN h1 h2 hsz hl R1
 go_enter Tryz.func26, Tryz.ntmps26
 go_wp2_with fail
 refine (N1.out _).mono ?_
 rintro e wq ⟨rfl, hb⟩
 have hA := TkA.below HA.out hb
 clear HA hb
 have HA := Aside0.mk hA
 have c0 := hA.c0
 have c1 := hA.c1
 have c2 := hA.c2
 have c3 := hA.c3
 have c4 := hA.c4
 have f0 := hA.f0 0
 have f1 := hA.f0 1
 have f2 := hA.f0 2
 have f3 := hA.f0 3
 have f4 := hA.f0 4
 clear hA
 go_wp2_with fail
 refine (B1.out _).mono ?_
 rintro e wq ⟨rfl, hb⟩
 have hA := TkA.below HA.out hb
 clear HA hb c0 c1 c2 c3 c4 f0 f1 f2 f3 f4
 have HA := Aside0.mk hA
 have c0 := hA.c0
 have c1 := hA.c1
 have c2 := hA.c2
 have c3 := hA.c3
 have c4 := hA.c4
 have f0 := hA.f0 0
 have f1 := hA.f0 1
 have f2 := hA.f0 2
 have f3 := hA.f0 3
 have f4 := hA.f0 4
 clear hA
 go_wp2_with fail
 refine (B2.out _).mono ?_
 rintro e wq ⟨rfl, hb⟩
 have hA := TkA.below HA.out hb
 clear HA hb c0 c1 c2 c3 c4 f0 f1 f2 f3 f4
 have HA := Aside0.mk hA
 have c0 := hA.c0
 have c1 := hA.c1
 have c2 := hA.c2
 have c3 := hA.c3
 have c4 := hA.c4
 have f0 := hA.f0 0
 have f1 := hA.f0 1
 have f2 := hA.f0 2
 have f3 := hA.f0 3
 have f4 := hA.f0 4
 clear hA
 go_wp2_with fail
 refine (R2.out _ (HG.out.below (TkA.low HA.out))).mono ?_
 rintro e wq ⟨rfl, hb⟩
 have hA := TkA.below HA.out hb
 clear HA hb c0 c1 c2 c3 c4 f0 f1 f2 f3 f4
 have HA := Aside0.mk hA
 have c0 := hA.c0
 have c1 := hA.c1
 have c2 := hA.c2
 have c3 := hA.c3
 have c4 := hA.c4
 have f0 := hA.f0 0
 have f1 := hA.f0 1
 have f2 := hA.f0 2
 have f3 := hA.f0 3
 have f4 := hA.f0 4
 clear hA
 go_wp2_with fail
 refine (L1.out _ (HG.out.below (TkA.low HA.out))).mono ?_
 rintro e wq ⟨rfl, hb⟩
 have hA := TkA.below HA.out hb
 clear HA hb c0 c1 c2 c3 c4 f0 f1 f2 f3 f4
 have HA := Aside0.mk hA
 have c0 := hA.c0
 have c1 := hA.c1
 have c2 := hA.c2
 have c3 := hA.c3
 have c4 := hA.c4
 have f0 := hA.f0 0
 have f1 := hA.f0 1
 have f2 := hA.f0 2
 have f3 := hA.f0 3
 have f4 := hA.f0 4
 clear hA
 go_wp2
 refine bodyPost_ret (results_ctt rfl _ _ w.heap.size 29 #[.int .i64 3, .string ⟨#[]⟩, .string (bs (cleanL x)), .slice none 0 0, .bool false] (0, 0) _ rfl (TkA.put HA.out (.int .i64 3) (.string ⟨#[]⟩) (.string (bs (cleanL x))) (.slice none 0 0) (.bool false)) Tryz.underlying29 rfl (by kernel_rfl)) rfl ?_
 exact ⟨_, rfl, Kd.R_nil _ _ _ _ _, TkA.putB HA.out _ _ _ _ _⟩
/- the walk's end -/
noncomputable def comment_Read.f (a0 : ByteArray) (a1 : Int) : Option (Int × ByteArray × ByteArray × List S63 × Bool × Int × Bool) := if a0.size ≤ 1000000000 then some (if 0 ≤ a1 ∧ a1 ≤ (lb a0).length ∧ comB ((lb a0).drop a1.toNat) = true then (3, ⟨#[]⟩, bs (cleanL (comC ((lb a0).drop a1.toNat)).1), [], false, a1 + ((comC ((lb a0).drop a1.toNat)).2 : Int), true) else (0, ⟨#[]⟩, ⟨#[]⟩, [], false, a1, false)) else none
theorem comment_Read.calls (a0 : ByteArray) (a1 : Int) (r1 : Int) (r2 r3 : ByteArray) (r4 : List S63) (r5 : Bool) (r6 : Int) (r7 : Bool) (w : World) (h : comment_Read.f a0 a1 = some (r1, r2, r3, r4, r5, r6, r7)) (hG : GW w) :
 Calls Tryz.prog 26 #[.string a0, .int .i64 a1] w fun e w' => ∃ v3_ : Value, e = .returned (.tuple #[.agg #[.int .i64 r1, .string r2, .string r3, v3_, .bool r5], .int .i64 r6, .bool r7]) ∧ Kd.R k63 63 w' w.heap.size (fun _ => True) v3_ r4 ∧ Below w.heap.size w w' := by
 unfold comment_Read.f at h
 split at h
 ·rename_i hb
  have h2 := Option.some.inj h
  have hsz := length_lb a0
  have hN : comment_Begins_o.f a0 a1 = some (decide (0 ≤ a1 ∧ a1 ≤ (lb a0).length) && comB ((lb a0).drop a1.toNat)) := by rw [comment_Begins_o.f, if_pos (by omega)]
  by_cases c : 0 ≤ a1 ∧ a1 ≤ (lb a0).length ∧ comB ((lb a0).drop a1.toNat) = true
  ·rw [if_pos c] at h2
   simp only [Prod.mk.injEq] at h2
   obtain ⟨rfl, rfl, rfl, rfl, rfl, rfl, rfl⟩ := h2
   obtain ⟨p, rfl⟩ := Int.eq_ofNat_of_zero_le c.1
   rw [decide_eq_true ⟨c.1, c.2.1⟩, c.2.2] at hN
   rw [Int.toNat_natCast] at c ⊢
   have hl := comB_len c.2.2
   rw [List.length_drop] at hl
   have hbg : ∀ e : ByteArray, e.size ≤ 100 → sign_Begins_o.f a0 (p : Int) e = some (pf (lb e) ((lb a0).drop p)) := fun e he => by
    rw [sign_Begins_o.f, if_pos ⟨by omega, by omega⟩, begL_pf, decide_eq_true ⟨by omega, by omega⟩, Bool.true_and, Int.toNat_natCast]
   have g1 := hbg ⟨#[60, 33, 45, 45]⟩ (by decide)
   have g2 := hbg ⟨#[60, 63]⟩ (by decide)
   rw [show lb (⟨#[60, 33, 45, 45]⟩ : ByteArray) = [60, 33, 45, 45] from rfl] at g1
   rw [show lb (⟨#[60, 63]⟩ : ByteArray) = [60, 63] from rfl] at g2
   have hd : ∀ i, ((lb a0).drop p).drop i = (lb a0).drop (p + i) := fun i => List.drop_drop
   by_cases c1 : pf [60, 33, 45, 45] ((lb a0).drop p) = true
   ·have := pf_len c1
    rw [List.length_drop] at this
    simp only [List.length_cons, List.length_nil] at this
    have r := comment_Read.plain_ a0 p w hG hb (by omega) hN (by rw [g1, c1])
    have e : comC ((lb a0).drop p) = ((plainC ((lb a0).drop (p + 4))).1, 4 + (plainC ((lb a0).drop (p + 4))).2) := by unfold comC; rw [if_pos c1, hd]
    rw [e]
    rw [show (p : Int) + 4 + ((plainC ((lb a0).drop (p + 4))).2 : Int) = (p : Int) + ((4 + (plainC ((lb a0).drop (p + 4))).2 : Nat) : Int) by omega] at r
    exact r
   ·by_cases c2 : pf [60, 63] ((lb a0).drop p) = true
    ·have r := comment_Read.short_ a0 p w hG hb (by omega) hN (by rw [g1, Bool.eq_false_iff.2 c1]) (by rw [g2, c2])
     have e : comC ((lb a0).drop p) = ((otherC ((lb a0).drop (p + 1))).1, 1 + (otherC ((lb a0).drop (p + 1))).2) := by unfold comC; rw [if_neg c1, if_pos c2, hd]
     rw [e]
     rw [show (p : Int) + 1 + ((otherC ((lb a0).drop (p + 1))).2 : Int) = (p : Int) + ((1 + (otherC ((lb a0).drop (p + 1))).2 : Nat) : Int) by omega] at r
     exact r
    ·have r := comment_Read.other_ a0 p w hG hb (by omega) hN (by rw [g1, Bool.eq_false_iff.2 c1]) (by rw [g2, Bool.eq_false_iff.2 c2])
     have e : comC ((lb a0).drop p) = ((otherC ((lb a0).drop (p + 2))).1, 2 + (otherC ((lb a0).drop (p + 2))).2) := by unfold comC; rw [if_neg c1, if_neg c2, hd]
     rw [e]
     rw [show (p : Int) + 2 + ((otherC ((lb a0).drop (p + 2))).2 : Int) = (p : Int) + ((2 + (otherC ((lb a0).drop (p + 2))).2 : Nat) : Int) by omega] at r
     exact r
  ·rw [if_neg c] at h2
   simp only [Prod.mk.injEq] at h2
   obtain ⟨rfl, rfl, rfl, rfl, rfl, rfl, rfl⟩ := h2
   refine comment_Read.none_ a0 a1 w ?_
   rw [hN, Bool.and_eq_false_iff.2]
   by_cases x : 0 ≤ a1 ∧ a1 ≤ (lb a0).length
   ·exact .inr (Bool.eq_false_iff.2 (fun y => c ⟨x.1, x.2, y⟩))
   ·exact .inl (decide_eq_false x)
 ·cases h
def doctype_Begins.f (a0 : ByteArray) (a1 : Int) : Option (Bool) := (sign_Begins_o.f a0 a1 (⟨#[60, 33, 100, 111, 99, 116, 121, 112, 101]⟩ : ByteArray)).bind fun t175 => (some t175)
theorem doctype_Begins.calls (a0 : ByteArray) (a1 : Int) (r : Bool) (w : World) (h : doctype_Begins.f a0 a1 = some r) :
 Calls Tryz.prog 27 #[.string a0, .int .i64 a1] w fun e w' => e = .returned (.bool r) ∧ Below w.heap.size w w' := by
 have HB := Aside0.mk (Below.refl w.heap.size w)
 have H : ((sign_Begins_o.f a0 a1 (⟨#[60, 33, 100, 111, 99, 116, 121, 112, 101]⟩ : ByteArray)).bind fun t175 => (some t175)) = some r := h
 clear h
 obtain ⟨t175, A3, H⟩ := bnd H
 obtain rfl := Option.some.inj H
 go_enter Tryz.func27, Tryz.ntmps27
 go_wp2_with (((with_reducible refine gate_callee (f := 29) rfl ?_); refine goesM Tryz.func29 #[.string a0, .int .i64 a1, .string (⟨#[60, 33, 100, 111, 99, 116, 121, 112, 101]⟩ : ByteArray)] ?_; (with_reducible refine (sign_Begins_o.calls a0 a1 (⟨#[60, 33, 100, 111, 99, 116, 121, 112, 101]⟩ : ByteArray) t175 _ A3.out).mono ?_); rintro e w4 ⟨rfl, hb⟩; refine ⟨_, rfl, ?_⟩; have n0_ := Aside0.mk (below_step bw hb); clear HB; have HB := n0_; clear n0_; (try clear hb)))
 all_goals (go_ret; exact ⟨by rfl, bw⟩)
def doctype_Begins_o.f (a0 : ByteArray) (a1 : Int) : Option Bool := if a0.size ≤ 1099511627776 then some (decide (0 ≤ a1 ∧ a1 ≤ (lb a0).length) && docB ((lb a0).drop a1.toNat)) else none
theorem doctype_Begins_o.sound (a0 : ByteArray) (a1 : Int) (r : Bool) (h : doctype_Begins_o.f a0 a1 = some r) : doctype_Begins.f a0 a1 = some r := by
 unfold doctype_Begins_o.f at h
 split at h
 ·rename_i hs
  rw [← h, doctype_Begins.f, sign_Begins_o.f, if_pos ⟨hs, by decide⟩, begL_pf]; rfl
 ·cases h
theorem doctype_Begins_o.calls (a0 : ByteArray) (a1 : Int) (r : Bool) (w : World) (h : doctype_Begins_o.f a0 a1 = some r) :
 Calls Tryz.prog 27 #[.string a0, .int .i64 a1] w fun e w' => e = .returned (.bool r) ∧ Below w.heap.size w w' := by
 have hk := doctype_Begins_o.sound _ _ _ h
 exact doctype_Begins.calls a0 a1 r w hk
def doctype_Read.f (a0 : ByteArray) (a1 : Int) : Option (Int × ByteArray × ByteArray × (List (S63)) × Bool × Int × Bool) := (doctype_Begins_o.f a0 a1).bind fun t177 => (if t177 = true then (if 0 ≤ (wrap64 (a1 + 9)) then (if (wrap64 (a1 + 9)) ≤ (a0.size : Int) then ((strings_Cut.f (a0.extract ((wrap64 (a1 + 9)) : Int).toNat a0.size) (⟨#[62]⟩ : ByteArray)).bind fun bt178 => (if bt178.2.2 = true then ((lines_Clean.f bt178.1).bind fun t181 => (some (4, (⟨#[]⟩ : ByteArray), t181, ([] : List (S63)), false, wrap64 ((wrap64 ((wrap64 (a1 + 9)) + (bt178.1.size : Int))) + 1), true))) else ((lines_Clean.f bt178.1).bind fun t182 => (some (4, (⟨#[]⟩ : ByteArray), t182, ([] : List (S63)), false, wrap64 ((wrap64 (a1 + 9)) + (bt178.1.size : Int)), true))))) else (none)) else (none)) else (some (0, (⟨#[]⟩ : ByteArray), (⟨#[]⟩ : ByteArray), ([] : List (S63)), false, a1, false)))
theorem doctype_Read.calls (a0 : ByteArray) (a1 : Int) (r1 : Int) (r2 : ByteArray) (r3 : ByteArray) (r4 : List (S63)) (r5 : Bool) (r6 : Int) (r7 : Bool) (w : World) (h : doctype_Read.f a0 a1 = some (r1, r2, r3, r4, r5, r6, r7)) (hG : GW w) :
 Calls Tryz.prog 28 #[.string a0, .int .i64 a1] w fun e w' => ∃ v3_ : Value, e = .returned (.tuple #[.agg #[.int .i64 r1, .string r2, .string r3, v3_, .bool r5], .int .i64 r6, .bool r7]) ∧ Kd.R k63 63 w' w.heap.size (fun _ => True) v3_ r4 ∧ Below w.heap.size w w' := by
 have HG := Aside0.mk hG
 clear hG
 have hu29 := Tryz.underlying29
 have HB := Aside0.mk (Below.refl w.heap.size w)
 have hx := bt_at
 have H := h
 clear h
 unfold doctype_Read.f at H
 with_reducible repeat' (first | (replace H := bnd H; obtain ⟨t, A, H⟩ := H) | (replace H := splB H; rcases H with ⟨rfl, H⟩ | ⟨rfl, H⟩) | (replace H := splN H; obtain ⟨⟨_, _, _⟩, H⟩ := H) | (replace H := spl H; rcases H with ⟨⟨_, _, _⟩, H⟩ | ⟨⟨_, _, _⟩, H⟩))
 all_goals
  with_reducible replace H := Option.some.inj H
  simp only [Prod.mk.injEq] at H
  obtain ⟨rfl, rfl, rfl, rfl, rfl, rfl, rfl⟩ := H
  go_enter Tryz.func28, Tryz.ntmps28
  go_wp2_with (first
   | ((with_reducible refine gate_dst (N := 4) rfl ?_); refine boxE (N := 4) (cs := #[.int .i64 0, .string (⟨#[]⟩ : ByteArray), .string (⟨#[]⟩ : ByteArray), .slice none 0 0, .bool false]) (t := 29) ?hr ?_; (case hr => first | (go_simp; done) | (go_simp; rfl)); clear HB; intro gb wb GE HB BK hc hf)
   | ((with_reducible refine gate_callee (f := 27) rfl ?_); refine callBK Tryz.func27 (fun h => doctype_Begins_o.calls (w := _) (h := h)) ?_; clear HB BK hc hf; intro wq hs HB BK hc hf)
   | ((with_reducible refine gate_callee (f := 53) rfl ?_); refine callDK Tryz.func53 (fun h => strings_Cut.calls (w := _) (h := h)) ?_; clear HB BK hc hf; intro wq hs HB BK hc hf)
   | ((with_reducible refine gate_callee (f := 48) rfl ?_); refine callBK Tryz.func48 (fun h => lines_Clean.calls (w := _) (h := h) (hG := HG.out.below bw)) ?_; clear HB BK hc hf; intro wq hs HB BK hc hf))
  all_goals (refine bodyPost_ret (results_ctt rfl _ _ gb 29 _ (0, 0) _ rfl (blkp) Tryz.underlying29 rfl (by kernel_rfl)) rfl ?_; exact ⟨_, eqr, by exact Kd.R_nil _ _ _ _ _, bw⟩)
noncomputable def doctype_Read_o.f (a0 : ByteArray) (a1 : Int) : Option (Int × ByteArray × ByteArray × (List (S63)) × Bool × Int × Bool) := if a0.size ≤ 1000000000 ∧ 0 ≤ a1 ∧ a1 ≤ (lb a0).length ∧ docB ((lb a0).drop a1.toNat) = true then some (4, ⟨#[]⟩, bs (cleanL (docC ((lb a0).drop a1.toNat)).1), [], false, a1 + ((docC ((lb a0).drop a1.toNat)).2 : Int), true) else none
theorem doctype_Read_o.sound (a0 : ByteArray) (a1 : Int) (r : Int × ByteArray × ByteArray × (List (S63)) × Bool × Int × Bool) (h : doctype_Read_o.f a0 a1 = some r) : doctype_Read.f a0 a1 = some r := by
 unfold doctype_Read_o.f at h
 split at h
 ·rename_i hs
  obtain ⟨hs, h0, h1, hd⟩ := hs
  have hl := length_lb a0
  obtain ⟨p, rfl⟩ := Int.eq_ofNat_of_zero_le h0
  rw [Int.toNat_natCast] at hd h
  have hn : 9 ≤ ((lb a0).drop p).length := pf_len hd
  rw [List.length_drop] at hn
  rw [← h, doctype_Read.f, doctype_Begins_o.f, if_pos (by omega), Option.bind_some, decide_eq_true ⟨h0, h1⟩, Bool.true_and, Int.toNat_natCast, hd, if_pos rfl, w64 (by omega) (by omega), if_pos (by omega), if_pos (by omega), show ((p : Int) + 9).toNat = p + 9 by omega]
  have hx : a0.extract (p + 9) a0.size = bs (((lb a0).drop p).drop 9) := by
   apply lb_inj
   rw [lb_extract, lb_bs, List.drop_drop, List.take_of_length_le (by rw [List.length_drop]; omega)]
  have hul : (((lb a0).drop p).drop 9).length = a0.size - p - 9 := by rw [List.length_drop, List.length_drop]; omega
  have hq : lb (⟨#[62]⟩ : ByteArray) = [62] := rfl
  have hdc : docC ((lb a0).drop p) = match toU 62 (((lb a0).drop p).drop 9) with
   | some n => ((((lb a0).drop p).drop 9).take n, 9 + n + 1)
   | none => (((lb a0).drop p).drop 9, ((lb a0).drop p).length) := rfl
  have hI : ∀ u : List UInt8, stringslite_Index.f (bs u) ⟨#[62]⟩ = some (Lib.indexByte u 62) := fun u => by rw [stringslite_Index.f, hq, lb_bs]
  rw [hx, strings_Cut.f, stringslite_Cut.f, hI, hdc]
  generalize hu : ((lb a0).drop p).drop 9 = u at *
  rcases toU_is 62 u with ⟨e1, e2⟩ | ⟨a, v, e1, e2, e3⟩
  ·rw [e1, index_none u 62 e2]
   simp only [Option.bind_some]
   rw [if_neg (by decide)]
   simp only [Option.bind_some]
   rw [if_neg (by decide), lines_Clean.f, if_pos (by rw [size_bs]; omega), lb_bs, Option.bind_some, size_bs, w64 (by omega) (by omega), List.length_drop, show (p : Int) + 9 + (u.length : Int) = (p : Int) + (((lb a0).length - p : Nat) : Int) by omega]
  ·have hal : u.length = a.length + v.length + 1 := by rw [e1, List.length_append, List.length_cons]; omega
   have hi : Lib.indexByte u 62 = (a.length : Int) := by rw [e1]; exact index_some _ _ _ e2
   have hex : (bs u).extract 0 (a.length : Int).toNat = bs (u.take a.length) := by
    apply lb_inj
    rw [lb_extract, lb_bs, lb_bs, Int.toNat_natCast, List.drop_zero, Nat.sub_zero]
   have z1 : ((⟨#[62]⟩ : ByteArray).size : Int) = 1 := rfl
   rw [e3, hi]
   simp only [Option.bind_some]
   rw [if_pos (by omega), if_pos (by omega), size_bs, if_pos (by omega), z1, w64 (by omega) (by omega), if_pos (by omega), if_pos (by omega)]
   simp only [Option.bind_some]
   rw [if_pos trivial, hex, lines_Clean.f, if_pos (by rw [size_bs, List.length_take]; omega), lb_bs, Option.bind_some, size_bs, List.length_take, show min a.length u.length = a.length by omega, show wrap64 ((p : Int) + 9 + (a.length : Int)) = (p : Int) + 9 + (a.length : Int) from w64 (by omega) (by omega), w64 (by omega) (by omega), show (p : Int) + 9 + (a.length : Int) + 1 = (p : Int) + ((9 + a.length + 1 : Nat) : Int) by omega]
 ·cases h
theorem doctype_Read_o.calls (a0 : ByteArray) (a1 : Int) (r1 : Int) (r2 : ByteArray) (r3 : ByteArray) (r4 : List (S63)) (r5 : Bool) (r6 : Int) (r7 : Bool) (w : World) (h : doctype_Read_o.f a0 a1 = some (r1, r2, r3, r4, r5, r6, r7)) (hG : GW w) :
 Calls Tryz.prog 28 #[.string a0, .int .i64 a1] w fun e w' => ∃ v3_ : Value, e = .returned (.tuple #[.agg #[.int .i64 r1, .string r2, .string r3, v3_, .bool r5], .int .i64 r6, .bool r7]) ∧ Kd.R k63 63 w' w.heap.size (fun _ => True) v3_ r4 ∧ Below w.heap.size w w' := by
 have hk := doctype_Read_o.sound _ _ _ h
 exact doctype_Read.calls a0 a1 r1 r2 r3 r4 r5 r6 r7 w hk hG
def text_inside.f (a0 : ByteArray) (a1 : Int) : Option (Int) := some (mn (mx a1 0) (a0.size : Int))
theorem text_inside.calls (a0 : ByteArray) (a1 : Int) (r : Int) (w : World) (h : text_inside.f a0 a1 = some r) :
 Calls Tryz.prog 56 #[.string a0, .int .i64 a1] w fun e w' => e = .returned (.int .i64 r) ∧ Below w.heap.size w w' := by
 have HB := Aside0.mk (Below.refl w.heap.size w)
 have H : (some (mn (mx a1 0) (a0.size : Int))) = some r := h
 clear h
 obtain ⟨ji3, hji3⟩ : ∃ j_ : Int, (mx a1 0) = j_ := ⟨_, rfl⟩
 replace H : (some (mn (ji3) (a0.size : Int))) = some r := by first | (rw [hji3] at H; exact H) | (simp only [hji3] at H ⊢; exact H)
 (try (have hji3l : 0 ≤ ji3 := by (rw [← hji3]; unfold mx; (repeat' split) <;> omega)))
 (try (have hji3m : 0 ≤ ji3 := by omega))
 have hji3_ : (if a1 < 0 then 0 else a1) = ji3 := hji3
 obtain ⟨ji4, hji4⟩ : ∃ j_ : Int, (mn (ji3) (a0.size : Int)) = j_ := ⟨_, rfl⟩
 replace H : (some ji4) = some r := by first | (rw [hji4] at H; exact H) | (simp only [hji4] at H ⊢; exact H)
 have hji4_ : (if (a0.size : Int) < (ji3) then (a0.size : Int) else (ji3)) = ji4 := hji4
 obtain rfl := Option.some.inj H
 go_enter Tryz.func56, Tryz.ntmps56
 go_wp2
 all_goals (go_ret; exact ⟨by rfl, by exact HB.out⟩)
def text_void.f (a0 : ByteArray) (a1 : Int) : Option (Bool) := (sign_Begins_o.f a0 a1 (⟨#[60, 47, 62]⟩ : ByteArray)).bind fun t183 => (some t183)
theorem text_void.calls (a0 : ByteArray) (a1 : Int) (r : Bool) (w : World) (h : text_void.f a0 a1 = some r) :
 Calls Tryz.prog 104 #[.string a0, .int .i64 a1] w fun e w' => e = .returned (.bool r) ∧ Below w.heap.size w w' := by
 have HB := Aside0.mk (Below.refl w.heap.size w)
 have H : ((sign_Begins_o.f a0 a1 (⟨#[60, 47, 62]⟩ : ByteArray)).bind fun t183 => (some t183)) = some r := h
 clear h
 obtain ⟨t183, A3, H⟩ := bnd H
 obtain rfl := Option.some.inj H
 go_enter Tryz.func104, Tryz.ntmps104
 go_wp2_with (((with_reducible refine gate_callee (f := 29) rfl ?_); refine goesM Tryz.func29 #[.string a0, .int .i64 a1, .string (⟨#[60, 47, 62]⟩ : ByteArray)] ?_; (with_reducible refine (sign_Begins_o.calls a0 a1 (⟨#[60, 47, 62]⟩ : ByteArray) t183 _ A3.out).mono ?_); rintro e w4 ⟨rfl, hb⟩; refine ⟨_, rfl, ?_⟩; have n0_ := Aside0.mk (below_step bw hb); clear HB; have HB := n0_; clear n0_; (try clear hb)))
 all_goals (go_ret; exact ⟨by rfl, bw⟩)
def text_Begins.f (a0 : ByteArray) (a1 : Int) : Option Bool := if a0.size ≤ 1099511627776 then some (decide (0 ≤ a1 ∧ a1 ≤ (lb a0).length) && markB ((lb a0).drop a1.toNat)) else none
theorem text_Begins.walk (s : ByteArray) (p : Int) (w : World) (t c d v : Bool)
 (hT : ∀ w, Calls Tryz.prog 23 #[.string s, .int .i64 p] w fun e w' => e = .returned (.bool t) ∧ Below w.heap.size w w')
 (hC : ∀ w, Calls Tryz.prog 25 #[.string s, .int .i64 p] w fun e w' => e = .returned (.bool c) ∧ Below w.heap.size w w')
 (hD : ∀ w, Calls Tryz.prog 27 #[.string s, .int .i64 p] w fun e w' => e = .returned (.bool d) ∧ Below w.heap.size w w')
 (hV : ∀ w, Calls Tryz.prog 104 #[.string s, .int .i64 p] w fun e w' => e = .returned (.bool v) ∧ Below w.heap.size w w') :
 Calls Tryz.prog 85 #[.string s, .int .i64 p] w fun e w' => e = .returned (.bool (t || (c || (d || v)))) ∧ Below w.heap.size w w' := by
 have HB := Aside0.mk (Below.refl w.heap.size w)
 have T1 := Lib.hid hT
 have C1 := Lib.hid hC
 have D1 := Lib.hid hD
 have V1 := Lib.hid hV
 clear hT hC hD hV
 have ix0 : ∀ W, (Instr.index 99 (.agg #[.func (.func 23) #[] #[], .func (.func 25) #[] #[], .func (.func 27) #[] #[], .func (.func 104) #[] #[]]) (.int .i64 0)).run Tryz.prog W = .ok (.agg #[.func (.func 23) #[] #[]]) W := fun W => by kernel_rfl
 have ix1 : ∀ W, (Instr.index 99 (.agg #[.func (.func 23) #[] #[], .func (.func 25) #[] #[], .func (.func 27) #[] #[], .func (.func 104) #[] #[]]) (.int .i64 1)).run Tryz.prog W = .ok (.agg #[.func (.func 25) #[] #[]]) W := fun W => by kernel_rfl
 have ix2 : ∀ W, (Instr.index 99 (.agg #[.func (.func 23) #[] #[], .func (.func 25) #[] #[], .func (.func 27) #[] #[], .func (.func 104) #[] #[]]) (.int .i64 2)).run Tryz.prog W = .ok (.agg #[.func (.func 27) #[] #[]]) W := fun W => by kernel_rfl
 have ix3 : ∀ W, (Instr.index 99 (.agg #[.func (.func 23) #[] #[], .func (.func 25) #[] #[], .func (.func 27) #[] #[], .func (.func 104) #[] #[]]) (.int .i64 3)).run Tryz.prog W = .ok (.agg #[.func (.func 104) #[] #[]]) W := fun W => by kernel_rfl
 go_enter Tryz.func85, Tryz.ntmps85
 go_wp2_with fail
 refine wp_loop_rounds 5 ?_
 rw [rounds_succ]
 go_wp2_with fail
 refine (T1.out _).mono ?_
 rintro e wq ⟨rfl, hb⟩
 have n0_ := Aside0.mk (below_step bw hb)
 clear HB
 have HB := n0_
 clear n0_ hb
 cases t
 rotate_left
 ·go_wp2
  go_ret 
  exact ⟨rfl, by exact HB.out⟩
 go_wp2_with fail
 rw [rounds_succ]
 go_wp2_with fail
 refine (C1.out _).mono ?_
 rintro e wq ⟨rfl, hb⟩
 have n0_ := Aside0.mk (below_step bw hb)
 clear HB
 have HB := n0_
 clear n0_ hb
 cases c
 rotate_left
 ·go_wp2
  go_ret 
  exact ⟨rfl, by exact HB.out⟩
 go_wp2_with fail
 rw [rounds_succ]
 go_wp2_with fail
 refine (D1.out _).mono ?_
 rintro e wq ⟨rfl, hb⟩
 have n0_ := Aside0.mk (below_step bw hb)
 clear HB
 have HB := n0_
 clear n0_ hb
 cases d
 rotate_left
 ·go_wp2
  go_ret 
  exact ⟨rfl, by exact HB.out⟩
 go_wp2_with fail
 rw [rounds_succ]
 go_wp2_with fail
 refine (V1.out _).mono ?_
 rintro e wq ⟨rfl, hb⟩
 have n0_ := Aside0.mk (below_step bw hb)
 clear HB
 have HB := n0_
 clear n0_ hb
 cases v
 rotate_left
 ·go_wp2
  go_ret 
  exact ⟨rfl, by exact HB.out⟩
 go_wp2_with fail
 rw [rounds_succ]
 go_wp2
 go_ret 
 exact ⟨rfl, by exact HB.out⟩
theorem text_Begins.calls (a0 : ByteArray) (a1 : Int) (r : Bool) (w : World) (h : text_Begins.f a0 a1 = some r) :
 Calls Tryz.prog 85 #[.string a0, .int .i64 a1] w fun e w' => e = .returned (.bool r) ∧ Below w.heap.size w w' := by
 unfold text_Begins.f at h
 split at h
 ·rename_i hs
  have hv : text_void.f a0 a1 = some (decide (0 ≤ a1 ∧ a1 ≤ (lb a0).length) && pf [60, 47, 62] ((lb a0).drop a1.toNat)) := by
   rw [text_void.f, sign_Begins_o.f, if_pos ⟨hs, by decide⟩, begL_pf]; rfl
  have := text_Begins.walk a0 a1 w _ _ _ _ (fun w => tag_Begins.calls a0 a1 _ w (by rw [tag_Begins.f, if_pos hs])) (fun w => comment_Begins_o.calls a0 a1 _ w (by rw [comment_Begins_o.f, if_pos hs])) (fun w => doctype_Begins_o.calls a0 a1 _ w (by rw [doctype_Begins_o.f, if_pos hs])) (fun w => text_void.calls a0 a1 _ w hv)
  rw [← Option.some.inj h, markB, Bool.and_or_distrib_left, Bool.and_or_distrib_left, Bool.and_or_distrib_left]
  exact this
 ·cases h
def text_Next.l0 : Nat → ByteArray → Int → Option (Int)
 | 0, _, _ => none
 | k + 1, x0, x5 => if x5 < (x0.size : Int) then (if 0 ≤ x5 then (if x5 ≤ (x0.size : Int) then ((strings_IndexByte.f (x0.extract (x5 : Int).toNat x0.size) 60).bind fun t185 => (if t185 < 0 then (some (x0.size : Int)) else ((text_Begins.f x0 (wrap64 (x5 + t185))).bind fun t186 => (if t186 = true then (some (wrap64 (x5 + t185))) else (text_Next.l0 k x0 (wrap64 ((wrap64 (x5 + t185)) + 1))))))) else (none)) else (none)) else (some (x0.size : Int))
def text_Next.f (k : Nat) (a0 : ByteArray) (a1 : Int) : Option (Int) := (text_inside.f a0 a1).bind fun t184 => (text_Next.l0 k a0 t184)
theorem text_Next.calls (k : Nat) (a0 : ByteArray) (a1 : Int) (r : Int) (w : World) (h : text_Next.f k a0 a1 = some r) :
 Calls Tryz.prog 54 #[.string a0, .int .i64 a1] w fun e w' => e = .returned (.int .i64 r) ∧ Below w.heap.size w w' := by
 have HB := Aside0.mk (Below.refl w.heap.size w)
 have hx := bt_at
 have H := h
 clear h
 unfold text_Next.f at H
 with_reducible repeat' ((replace H := bnd H; obtain ⟨t, A, H⟩ := H))
 all_goals
  first
  | (with_reducible replace H := Option.some.inj H
     subst H
     go_enter Tryz.func54, Tryz.ntmps54
     go_wp2_with (first
      | ((with_reducible refine gate_callee (f := 56) rfl ?_); refine callB Tryz.func56 (fun h => text_inside.calls (w := _) (h := h)) ?_; clear HB; intro wq HB)
      | ((with_reducible refine gate_callee (f := 84) rfl ?_); refine callD Tryz.func84 (fun h => strings_IndexByte.calls (w := _) (h := h)) ?_; intro nd)
      | ((with_reducible refine gate_callee (f := 85) rfl ?_); refine callB Tryz.func85 (fun h => text_Begins.calls (w := _) (h := h)) ?_; clear HB; intro wq HB))
     all_goals (go_ret; exact ⟨eqr, bw⟩))
  | (with_reducible have H0 : text_Next.l0 _ _ _ = some _ := H
     clear H0
     have H' := Aside0.mk H
     clear H
     go_enter Tryz.func54, Tryz.ntmps54
     go_wp2_with (first
      | ((with_reducible refine gate_callee (f := 56) rfl ?_); refine callB Tryz.func56 (fun h => text_inside.calls (w := _) (h := h)) ?_; clear HB; intro wq HB)
      | ((with_reducible refine gate_callee (f := 84) rfl ?_); refine callD Tryz.func84 (fun h => strings_IndexByte.calls (w := _) (h := h)) ?_; intro nd)
      | ((with_reducible refine gate_callee (f := 85) rfl ?_); refine callB Tryz.func85 (fun h => text_Begins.calls (w := _) (h := h)) ?_; clear HB; intro wq HB))
     go_loopg [5] k (fun kq v5 w' => ∃ (x5_1 : Int), v5 = .int .i64 x5_1 ∧ Aside0 (text_Next.l0 kq a0 x5_1 = some r) ∧ Aside0 (kq ≤ k) ∧ Aside0 (Below w.heap.size w w'))
     case atStart => exact ⟨_, eqr, H', ⟨Nat.le_refl _⟩, ⟨bw⟩⟩
     case round =>
      clear H'
      clear HB
      obtain ⟨x5_1, rfl, HA, HK1, HB⟩ := hrel
      cases gk with
      | zero => exact absurd HA.out (by simp [text_Next.l0])
      | succ k1 =>
       have H := HA.out
       clear HA
       rw [text_Next.l0] at H
       with_reducible repeat' (first | (replace H := bnd H; obtain ⟨t, A, H⟩ := H) | (replace H := splB H; rcases H with ⟨rfl, H⟩ | ⟨rfl, H⟩) | (replace H := splN H; obtain ⟨⟨_, _, _⟩, H⟩ := H) | (replace H := spl H; rcases H with ⟨⟨_, _, _⟩, H⟩ | ⟨⟨_, _, _⟩, H⟩))
       all_goals
        first
        | (with_reducible replace H := Option.some.inj H
           subst H
           go_wp2_with (first
            | ((with_reducible refine gate_callee (f := 56) rfl ?_); refine callB Tryz.func56 (fun h => text_inside.calls (w := _) (h := h)) ?_; clear HB; intro wq HB)
            | ((with_reducible refine gate_callee (f := 84) rfl ?_); refine callD Tryz.func84 (fun h => strings_IndexByte.calls (w := _) (h := h)) ?_; intro nd)
            | ((with_reducible refine gate_callee (f := 85) rfl ?_); refine callB Tryz.func85 (fun h => text_Begins.calls (w := _) (h := h)) ?_; clear HB; intro wq HB))
           all_goals (go_ret; exact ⟨eqr, bw⟩))
        | (with_reducible have H' : Aside0 (text_Next.l0 _ _ _ = some _) := ⟨H⟩
           clear H
           go_wp2_with (first
            | ((with_reducible refine gate_callee (f := 56) rfl ?_); refine callB Tryz.func56 (fun h => text_inside.calls (w := _) (h := h)) ?_; clear HB; intro wq HB)
            | ((with_reducible refine gate_callee (f := 84) rfl ?_); refine callD Tryz.func84 (fun h => strings_IndexByte.calls (w := _) (h := h)) ?_; intro nd)
            | ((with_reducible refine gate_callee (f := 85) rfl ?_); refine callB Tryz.func85 (fun h => text_Begins.calls (w := _) (h := h)) ?_; clear HB; intro wq HB))
           go_roundg k1
           case measure => have := HK1.out; omega
           case rel => exact ⟨_, eqr, H', ⟨by have := HK1.out; omega⟩, ⟨bw⟩⟩))
def text_Next_o.f (a0 : ByteArray) (a1 : Int) : Option Int := if a0.size ≤ 1099511627776 then some ((inside a0.size a1 + nextU ((lb a0).drop (inside a0.size a1)) : Nat) : Int) else none
theorem text_Next.lem (s : ByteArray) (hs : s.size ≤ 1099511627776) (n : Nat) : ∀ (k i : Nat), i ≤ s.size → s.size - i ≤ n → n < k → text_Next.l0 k s (i : Int) = some ((i + nextU ((lb s).drop i) : Nat) : Int) := by
 have hl := length_lb s
 induction n with
 | zero =>
  intro k i hi hn hk
  obtain ⟨K, rfl⟩ : ∃ m, k = m + 1 := ⟨k - 1, by omega⟩
  rw [text_Next.l0, if_neg (by omega), List.drop_of_length_le (by omega), nextU]
  exact congrArg some (by omega)
 | succ n ih =>
  intro k i hi hn hk
  obtain ⟨K, rfl⟩ : ∃ m, k = m + 1 := ⟨k - 1, by omega⟩
  by_cases he : i = s.size
  ·rw [text_Next.l0, if_neg (by omega), List.drop_of_length_le (by omega), nextU]
   exact congrArg some (by omega)
  have hx : s.extract ((i : Int)).toNat s.size = bs ((lb s).drop i) := by
   apply lb_inj
   rw [lb_extract, lb_bs, Int.toNat_natCast, List.take_of_length_le (by rw [List.length_drop]; omega)]
  rw [text_Next.l0, if_pos (by omega), if_pos (by omega), if_pos (by omega), hx, strings_IndexByte.f, lb_bs]
  rcases lt_index ((lb s).drop i) with ⟨e, hn2⟩ | ⟨a, u, e, hn2, hi2⟩
  ·have e' : Lib.indexByte ((lb s).drop i) (60 : Int).toNat.toUInt8 = -1 := e
   rw [e', Option.bind_some, if_pos (by omega), nextU_none _ hn2, List.length_drop]
   exact congrArg some (by omega)
  ·have e' : Lib.indexByte ((lb s).drop i) (60 : Int).toNat.toUInt8 = a.length := hi2
   have hla : i + a.length + 1 + u.length = s.size := by
    have := congrArg List.length e
    rw [List.length_drop, List.length_append, List.length_cons] at this; omega
   have hdu : (lb s).drop (i + a.length) = 60 :: u := by rw [← List.drop_drop, e, List.drop_left]
   have hdu1 : (lb s).drop (i + a.length + 1) = u := by rw [← List.drop_drop, hdu]; rfl
   rw [e', Option.bind_some, if_neg (by omega), w64 (by omega) (by omega), text_Begins.f, if_pos hs, Option.bind_some, decide_eq_true (by omega), Bool.true_and, show ((i : Int) + (a.length : Int)).toNat = i + a.length by omega, hdu, e, nextU_plain _ _ hn2]
   by_cases hm : markB (60 :: u) = true
   ·rw [if_pos hm, nextU_mark _ hm]
    exact congrArg some (by omega)
   ·rw [if_neg hm, w64 (by omega) (by omega), show (i : Int) + (a.length : Int) + 1 = ((i + a.length + 1 : Nat) : Int) by omega, ih K (i + a.length + 1) (by omega) (by omega) (by omega), hdu1, nextU_not (60 :: u) (by simpa using hm) (by simp), List.drop_succ_cons, List.drop_zero]
    exact congrArg some (by omega)
theorem inside_mn (n : Nat) (p : Int) : mn (mx p 0) (n : Int) = (inside n p : Int) := by unfold mn mx inside; omega
theorem text_Next_o.sound (a0 : ByteArray) (a1 : Int) (r : Int) (h : text_Next_o.f a0 a1 = some r) : ∃ k, text_Next.f k a0 a1 = some r := by
 unfold text_Next_o.f at h
 split at h
 ·rename_i hs
  refine ⟨a0.size + 1, ?_⟩
  have hi := inside_le a0.size a1
  rw [← h, text_Next.f, text_inside.f, Option.bind_some, inside_mn, text_Next.lem a0 hs a0.size (a0.size + 1) _ hi (by omega) (by omega)]
 ·cases h
theorem text_Next_o.calls (a0 : ByteArray) (a1 : Int) (r : Int) (w : World) (h : text_Next_o.f a0 a1 = some r) :
 Calls Tryz.prog 54 #[.string a0, .int .i64 a1] w fun e w' => e = .returned (.int .i64 r) ∧ Below w.heap.size w w' := by
 obtain ⟨k, hk⟩ := text_Next_o.sound _ _ _ h
 exact text_Next.calls k a0 a1 r w hk
def text_Read.f (a0 : ByteArray) (a1 : Int) : Option (ByteArray × Int) := (text_Next_o.f a0 a1).bind fun t187 => ((text_inside.f a0 a1).bind fun t188 => (if 0 ≤ t188 then (if t188 ≤ t187 then (if t187 ≤ (a0.size : Int) then ((ref_Decode.f (a0.extract (t188 : Int).toNat (t187 : Int).toNat) false).bind fun t189 => (some (t189, t187))) else (none)) else (none)) else (none)))
theorem text_Read.calls (a0 : ByteArray) (a1 : Int) (r1 : ByteArray) (r2 : Int) (w : World) (h : text_Read.f a0 a1 = some (r1, r2)) (hG : GW w) :
 Calls Tryz.prog 30 #[.string a0, .int .i64 a1] w fun e w' => e = .returned (.tuple #[.string r1, .int .i64 r2]) ∧ Below w.heap.size w w' := by
 have HG := Aside0.mk hG
 clear hG
 have HB := Aside0.mk (Below.refl w.heap.size w)
 have hx := bt_at
 have H := h
 clear h
 unfold text_Read.f at H
 with_reducible repeat' (first | (replace H := bnd H; obtain ⟨t, A, H⟩ := H) | (replace H := splN H; obtain ⟨⟨_, _, _⟩, H⟩ := H))
 all_goals
  with_reducible replace H := Option.some.inj H
  simp only [Prod.mk.injEq] at H
  obtain ⟨rfl, rfl⟩ := H
  go_enter Tryz.func30, Tryz.ntmps30
  go_wp2_with (first
   | ((with_reducible refine gate_callee (f := 54) rfl ?_); refine callB Tryz.func54 (fun h => text_Next_o.calls (w := _) (h := h)) ?_; clear HB; intro wq HB)
   | ((with_reducible refine gate_callee (f := 56) rfl ?_); refine callB Tryz.func56 (fun h => text_inside.calls (w := _) (h := h)) ?_; clear HB; intro wq HB)
   | ((with_reducible refine gate_callee (f := 55) rfl ?_); refine callB Tryz.func55 (fun h => ref_Decode.calls (w := _) (h := h) (hG := HG.out.below bw)) ?_; clear HB; intro wq HB))
  all_goals (go_ret2; exact ⟨eqr, bw⟩)
noncomputable def text_Read_o.f (a0 : ByteArray) (a1 : Int) : Option (ByteArray × Int) := if a0.size ≤ 1099511627776 then some (bs (decS (((lb a0).drop (inside a0.size a1)).take (nextU ((lb a0).drop (inside a0.size a1)))) false), ((inside a0.size a1 + nextU ((lb a0).drop (inside a0.size a1)) : Nat) : Int)) else none
theorem text_Read_o.sound (a0 : ByteArray) (a1 : Int) (r : ByteArray × Int) (h : text_Read_o.f a0 a1 = some r) : text_Read.f a0 a1 = some r := by
 unfold text_Read_o.f at h
 split at h
 ·rename_i hs
  have hl := length_lb a0
  have hi := inside_le a0.size a1
  have hn := nextU_le ((lb a0).drop (inside a0.size a1))
  rw [List.length_drop] at hn
  rw [← h, text_Read.f, text_Next_o.f, if_pos hs, Option.bind_some, text_inside.f, Option.bind_some, inside_mn, if_pos (by omega), if_pos (by omega), if_pos (by omega), ref_Decode.f, if_pos (by rw [ByteArray.size_extract]; omega), Option.bind_some, lb_extract]
  simp only [Int.toNat_natCast]
  rw [show inside a0.size a1 + nextU ((lb a0).drop (inside a0.size a1)) - inside a0.size a1 = nextU ((lb a0).drop (inside a0.size a1)) by omega]
 ·cases h
theorem text_Read_o.calls (a0 : ByteArray) (a1 : Int) (r1 : ByteArray) (r2 : Int) (w : World) (h : text_Read_o.f a0 a1 = some (r1, r2)) (hG : GW w) :
 Calls Tryz.prog 30 #[.string a0, .int .i64 a1] w fun e w' => e = .returned (.tuple #[.string r1, .int .i64 r2]) ∧ Below w.heap.size w w' := by
 have hk := text_Read_o.sound _ _ _ h
 exact text_Read.calls a0 a1 r1 r2 w hk hG
def tok_Next.f (a0 : ByteArray) (a1 : Int) : Option (Int × ByteArray × ByteArray × (List (S63)) × Bool × Int × Bool) := (tok_inside.f a0 a1).bind fun t191 => ((tag_Begins.f a0 t191).bind fun t192 => (if t192 = true then ((tag_Read.f a0 t191).bind fun bt193 => (some (bt193.1, bt193.2.1, bt193.2.2.1, bt193.2.2.2.1, bt193.2.2.2.2.1, bt193.2.2.2.2.2.1, bt193.2.2.2.2.2.2))) else ((comment_Begins_o.f a0 t191).bind fun t202 => (if t202 = true then ((comment_Read.f a0 t191).bind fun bt203 => (some (bt203.1, bt203.2.1, bt203.2.2.1, bt203.2.2.2.1, bt203.2.2.2.2.1, bt203.2.2.2.2.2.1, bt203.2.2.2.2.2.2))) else ((doctype_Begins_o.f a0 t191).bind fun t212 => (if t212 = true then ((doctype_Read_o.f a0 t191).bind fun bt213 => (some (bt213.1, bt213.2.1, bt213.2.2.1, bt213.2.2.2.1, bt213.2.2.2.2.1, bt213.2.2.2.2.2.1, bt213.2.2.2.2.2.2))) else ((sign_Begins_o.f a0 t191 (⟨#[60, 47, 62]⟩ : ByteArray)).bind fun t222 => (if t222 = true then (some (0, (⟨#[]⟩ : ByteArray), (⟨#[]⟩ : ByteArray), ([] : List (S63)), false, wrap64 (t191 + 3), false)) else ((text_Read_o.f a0 t191).bind fun bt223 => (if bt223.2 = t191 then (some (0, (⟨#[]⟩ : ByteArray), (⟨#[]⟩ : ByteArray), ([] : List (S63)), false, t191, false)) else (some (0, (⟨#[]⟩ : ByteArray), bt223.1, ([] : List (S63)), false, bt223.2, true))))))))))))
theorem tok_Next.calls (a0 : ByteArray) (a1 : Int) (r1 : Int) (r2 : ByteArray) (r3 : ByteArray) (r4 : List (S63)) (r5 : Bool) (r6 : Int) (r7 : Bool) (w : World) (h : tok_Next.f a0 a1 = some (r1, r2, r3, r4, r5, r6, r7)) (hG : GW w) :
 Calls Tryz.prog 10 #[.string a0, .int .i64 a1] w fun e w' => ∃ v3_ : Value, e = .returned (.tuple #[.agg #[.int .i64 r1, .string r2, .string r3, v3_, .bool r5], .int .i64 r6, .bool r7]) ∧ Kd.R k63 63 w' w.heap.size (fun _ => True) v3_ r4 ∧ Below w.heap.size w w' := by
 have HG := Aside0.mk hG
 clear hG
 have hu29 := Tryz.underlying29
 have HB := Aside0.mk (Below.refl w.heap.size w)
 have hx := bt_at
 have H := h
 clear h
 unfold tok_Next.f at H
 with_reducible repeat' (first | (replace H := bnd H; obtain ⟨t, A, H⟩ := H) | (replace H := splB H; rcases H with ⟨rfl, H⟩ | ⟨rfl, H⟩) | (replace H := spl H; rcases H with ⟨⟨_, _, _⟩, H⟩ | ⟨⟨_, _, _⟩, H⟩))
 all_goals
  with_reducible replace H := Option.some.inj H
  simp only [Prod.mk.injEq] at H
  obtain ⟨rfl, rfl, rfl, rfl, rfl, rfl, rfl⟩ := H
  go_enter Tryz.func10, Tryz.ntmps10
  go_wp2_with (first
   | ((with_reducible refine gate_dst (N := 4) rfl ?_); refine boxE (N := 4) (cs := #[.int .i64 0, .string (⟨#[]⟩ : ByteArray), .string (⟨#[]⟩ : ByteArray), .slice none 0 0, .bool false]) (t := 29) ?hr ?_; (case hr => first | (go_simp; done) | (go_simp; rfl)); clear HB; intro gb wb GE HB BK hc hf)
   | ((with_reducible refine gate_callee (f := 22) rfl ?_); refine callBK Tryz.func22 (fun h => tok_inside.calls (w := _) (h := h)) ?_; clear HB BK hc hf; intro wq hs HB BK hc hf)
   | ((with_reducible refine gate_callee (f := 23) rfl ?_); refine callBK Tryz.func23 (fun h => tag_Begins.calls (w := _) (h := h)) ?_; clear HB BK hc hf; intro wq hs HB BK hc hf)
   | ((with_reducible refine gate_callee (f := 24) rfl ?_); refine callRK Tryz.func24 (fun h => tag_Read.calls (w := _) (h := h) (hG := HG.out.below bw)) ?_; clear HB BK hc hf; intro up uc wq hs HO HB BK hc hf)
   | ((with_reducible refine gate_callee (f := 25) rfl ?_); refine callBK Tryz.func25 (fun h => comment_Begins_o.calls (w := _) (h := h)) ?_; clear HB BK hc hf; intro wq hs HB BK hc hf)
   | ((with_reducible refine gate_callee (f := 26) rfl ?_); refine callRK Tryz.func26 (fun h => comment_Read.calls (w := _) (h := h) (hG := HG.out.below bw)) ?_; clear HB BK hc hf; intro up uc wq hs HO HB BK hc hf)
   | ((with_reducible refine gate_callee (f := 27) rfl ?_); refine callBK Tryz.func27 (fun h => doctype_Begins_o.calls (w := _) (h := h)) ?_; clear HB BK hc hf; intro wq hs HB BK hc hf)
   | ((with_reducible refine gate_callee (f := 28) rfl ?_); refine callRK Tryz.func28 (fun h => doctype_Read_o.calls (w := _) (h := h) (hG := HG.out.below bw)) ?_; clear HB BK hc hf; intro up uc wq hs HO HB BK hc hf)
   | ((with_reducible refine gate_callee (f := 29) rfl ?_); refine callBK Tryz.func29 (fun h => sign_Begins_o.calls (w := _) (h := h)) ?_; clear HB BK hc hf; intro wq hs HB BK hc hf)
   | ((with_reducible refine gate_callee (f := 30) rfl ?_); refine callBK Tryz.func30 (fun h => text_Read_o.calls (w := _) (h := h) (hG := HG.out.below bw)) ?_; clear HB BK hc hf; intro wq hs HB BK hc hf))
  all_goals (refine bodyPost_ret (results_ctt rfl _ _ gb 29 _ (0, 0) _ rfl (blkp) Tryz.underlying29 rfl (by kernel_rfl)) rfl ?_; exact ⟨_, eqr, by first | exact Kd.R_nil _ _ _ _ _ | exact ownp (g := gb), bw⟩)
def mkT (t : TK) : S29 := ⟨t.1, bs t.2.1, bs t.2.2.1, EA t.2.2.2.1, t.2.2.2.2⟩
def tupT (o : Option TK) (n : Nat) : Int × ByteArray × ByteArray × (List (S63)) × Bool × Int × Bool :=
 match o with
 | some t => (t.1, bs t.2.1, bs t.2.2.1, EA t.2.2.2.1, t.2.2.2.2, (n : Int), true)
 | none => (0, ⟨#[]⟩, ⟨#[]⟩, [], false, (n : Int), false)
theorem tag_posT (s : ByteArray) (p : Nat) (hp : p ≤ s.size) : tagN (lb s) (p : Int) = ((tagK ((lb s).drop p) : Nat) : Int) := by
 unfold tagN
 rw [if_pos ⟨by omega, by rw [length_lb]; omega⟩, Int.toNat_natCast]
theorem readT_is (s : ByteArray) (p : Nat) (hs : s.size ≤ 100000) (hp : p ≤ s.size) : tag_Read.f s (p : Int) = some (tupT (readT ((lb s).drop p)).1 (p + (readT ((lb s).drop p)).2)) := by
 have hl := length_lb s
 rw [tag_Read.f, if_pos ⟨by omega, by omega, by omega⟩, tag_posT s p hp, Int.toNat_natCast, Int.toNat_natCast]
 obtain ⟨u, hu⟩ : ∃ u, (lb s).drop p = u := ⟨_, rfl⟩
 have hul : u.length = s.size - p := by rw [← hu, List.length_drop, hl]
 rw [hu]
 unfold readT
 by_cases h : tagK u = 0
 ·rw [if_pos h, h, if_pos (by rfl)]; rfl
 rw [if_neg h, if_neg (by omega)]
 have e1 : (lb s).drop (p + tagK u) = u.drop (tagK u) := by rw [← hu, List.drop_drop]
 have e2 : (lb s).drop (p + tagK u + wdU [47, 62] (u.drop (tagK u))) = tZ u := by
  show _ = (u.drop (tagK u)).drop (wdU [47, 62] (u.drop (tagK u)))
  rw [← e1, List.drop_drop]
 have e3 : ∀ (q : Nat) (z : List UInt8), finA [] q z = (EA (if (sc z).2.2.2 = true then (sc z).1.foldl addA [] else []), (sc z).2.1, ((q + (sc z).2.2.1 : Nat) : Int), (sc z).2.2.2) := fun _ _ => rfl
 unfold tagF
 rw [e1, e2, e3, hl]
 by_cases ho : tOk u = true
 ·have ho2 : (sc (tZ u)).2.2.2 = true := ho
  rw [if_pos ho]
  simp only []
  rw [if_pos ho2, if_pos ho2]
  unfold tagT tNm tN tW
  by_cases k1 : tagK u = 1
  ·rw [if_pos k1, if_pos k1]
   simp only [Nat.add_assoc]; rfl
  ·rw [if_neg k1, if_neg k1]
   simp only [Nat.add_assoc]; rfl
 ·have ho2 : ¬ (sc (tZ u)).2.2.2 = true := ho
  rw [if_neg ho]
  simp only []
  rw [if_neg ho2]
  show _ = some ((0 : Int), (⟨#[]⟩ : ByteArray), (⟨#[]⟩ : ByteArray), [], false, ((p + u.length : Nat) : Int), false)
  rw [show p + u.length = s.size by omega]
theorem inside_mnT (n : Nat) (p : Int) : mn (mx p 0) (n : Int) = (inside n p : Int) := by unfold mn mx inside; omega
noncomputable def tok_Next_o.f (a0 : ByteArray) (a1 : Int) : Option (Int × ByteArray × ByteArray × (List (S63)) × Bool × Int × Bool) := if a0.size ≤ 100000 then some (tupT (pieceT ((lb a0).drop (inside a0.size a1))).1 (inside a0.size a1 + (pieceT ((lb a0).drop (inside a0.size a1))).2)) else none
theorem tok_Next_o.sound (a0 : ByteArray) (a1 : Int) (r : Int × ByteArray × ByteArray × (List (S63)) × Bool × Int × Bool) (h : tok_Next_o.f a0 a1 = some r) : tok_Next.f a0 a1 = some r := by
 unfold tok_Next_o.f at h
 split at h
 ·rename_i hs
  have hl := length_lb a0
  have hi := inside_le a0.size a1
  rw [← h, tok_Next.f, tok_inside.f, Option.bind_some, inside_mnT]
  generalize inside a0.size a1 = p at *
  obtain ⟨u, hu⟩ : ∃ u, (lb a0).drop p = u := ⟨_, rfl⟩
  have hd : ∀ q : Prop, [Decidable q] → q → decide q = true := fun q _ hq => decide_eq_true hq
  have hb : decide ((0 : Int) ≤ (p : Int) ∧ (p : Int) ≤ ((lb a0).length : Int)) = true := decide_eq_true ⟨by omega, by omega⟩
  have hul : u.length = a0.size - p := by rw [← hu, List.length_drop, hl]
  rw [tag_Begins.f, if_pos (by omega), Option.bind_some, hb, Bool.true_and, Int.toNat_natCast, hu]
  by_cases h1 : tagK u = 0
  ·rw [h1, if_neg (by decide), comment_Begins_o.f, if_pos (by omega), Option.bind_some, hb, Bool.true_and, Int.toNat_natCast, hu]
   have hP : pieceT u = if comB u = true then (some (3, [], cleanL (comC u).1, [], false), (comC u).2) else if docB u = true then (some (4, [], cleanL (docC u).1, [], false), (docC u).2) else if pf [60, 47, 62] u = true then (none, 3) else if nextU u = 0 then (none, 0) else (some (txT (decS (u.take (nextU u)) false)), nextU u) := by unfold pieceT; rw [if_neg (show ¬ tagK u ≠ 0 from fun x => x h1)]
   rw [hP]
   clear hP
   by_cases h2 : comB u = true
   ·rw [if_pos h2, if_pos h2, comment_Read.f, if_pos (by omega), Option.bind_some, Int.toNat_natCast, hu, if_pos ⟨by omega, by omega, h2⟩]; rfl
   rw [if_neg h2, if_neg h2, doctype_Begins_o.f, if_pos (by omega), Option.bind_some, hb, Bool.true_and, Int.toNat_natCast, hu]
   by_cases h3 : docB u = true
   ·rw [if_pos h3, if_pos h3, doctype_Read_o.f, if_pos (by rw [Int.toNat_natCast, hu]; exact ⟨by omega, by omega, by omega, h3⟩), Option.bind_some, Int.toNat_natCast, hu]; rfl
   have hq : lb (⟨#[60, 47, 62]⟩ : ByteArray) = [60, 47, 62] := rfl
   rw [if_neg h3, if_neg h3, sign_Begins_o.f, if_pos ⟨by omega, by decide⟩, Option.bind_some, begL_pf, hb, Bool.true_and, Int.toNat_natCast, hq, hu]
   by_cases h4 : pf [60, 47, 62] u = true
   ·rw [if_pos h4, if_pos h4, w64 (by omega) (by omega)]; rfl
   have hin : inside a0.size (p : Int) = p := by unfold inside; omega
   rw [if_neg h4, if_neg h4, text_Read_o.f, if_pos (by omega), Option.bind_some, hin, hu]
   have hn := nextU_le u
   by_cases h5 : nextU u = 0
   ·rw [if_pos h5, h5, if_pos (by rfl)]; rfl
   ·rw [if_neg h5, if_neg (show ¬ ((p + nextU u : Nat) : Int) = (p : Int) by omega)]; rfl
  ·rw [if_pos (bne_iff_ne.2 h1), readT_is a0 p hs hi, hu, Option.bind_some, piece_tag h1]
 ·cases h
theorem tok_Next_o.calls (a0 : ByteArray) (a1 : Int) (r1 : Int) (r2 : ByteArray) (r3 : ByteArray) (r4 : List (S63)) (r5 : Bool) (r6 : Int) (r7 : Bool) (w : World) (h : tok_Next_o.f a0 a1 = some (r1, r2, r3, r4, r5, r6, r7)) (hG : GW w) :
 Calls Tryz.prog 10 #[.string a0, .int .i64 a1] w fun e w' => ∃ v3_ : Value, e = .returned (.tuple #[.agg #[.int .i64 r1, .string r2, .string r3, v3_, .bool r5], .int .i64 r6, .bool r7]) ∧ Kd.R k63 63 w' w.heap.size (fun _ => True) v3_ r4 ∧ Below w.heap.size w w' := by
 have hk := tok_Next_o.sound _ _ _ h
 exact tok_Next.calls a0 a1 r1 r2 r3 r4 r5 r6 r7 w hk hG
def raw_Ends.j0 : Nat → ByteArray → Int → ByteArray → Bool → Option (Bool)
 | 0, _, _, _, _ => none
 | k + 1, x0, x1, x2, x24 => if x24 = true then (some false) else (if (wrap64 ((wrap64 (x1 + 2)) + (x2.size : Int))) = (x0.size : Int) then (some false) else (if 0 ≤ (wrap64 ((wrap64 (x1 + 2)) + (x2.size : Int))) then (if (wrap64 ((wrap64 (x1 + 2)) + (x2.size : Int))) < (x0.size : Int) then ((sign_Space_o.f (bt x0 (wrap64 ((wrap64 (x1 + 2)) + (x2.size : Int))))).bind fun t227 => (if t227 = true then (some true) else (if (bt x0 (wrap64 ((wrap64 (x1 + 2)) + (x2.size : Int)))) = 47 then (some true) else (some ((bt x0 (wrap64 ((wrap64 (x1 + 2)) + (x2.size : Int)))) == 62))))) else (none)) else (none)))
def raw_Ends.f (k : Nat) (a0 : ByteArray) (a1 : Int) (a2 : ByteArray) : Option (Bool) := if a2.toList = ([] : List UInt8) then (raw_Ends.j0 k a0 a1 a2 true) else ((sign_Begins_o.f a0 a1 (⟨#[60, 47]⟩ : ByteArray)).bind fun t225 => (if t225 = true then ((sign_Begins_o.f a0 (wrap64 (a1 + 2)) a2).bind fun t226 => (raw_Ends.j0 k a0 a1 a2 (!t226))) else (raw_Ends.j0 k a0 a1 a2 true)))
theorem raw_Ends.calls (k : Nat) (a0 : ByteArray) (a1 : Int) (a2 : ByteArray) (r : Bool) (w : World) (h : raw_Ends.f k a0 a1 a2 = some r) :
 Calls Tryz.prog 94 #[.string a0, .int .i64 a1, .string a2] w fun e w' => e = .returned (.bool r) ∧ Below w.heap.size w w' := by
 have HB := Aside0.mk (Below.refl w.heap.size w)
 have hx := bt_at
 have H := h
 clear h
 unfold raw_Ends.f at H
 with_reducible repeat' (first | (have H0 : raw_Ends.j0 _ _ _ _ _ = some _ := H; clear H0; (obtain ⟨k, rfl⟩ : ∃ n, k = n + 1 := by (cases k with | zero => exact absurd H (by simp [raw_Ends.j0]) | succ n => exact ⟨n, rfl⟩)); rw [raw_Ends.j0] at H) | replace H := ifT H | (replace H := bnd H; obtain ⟨t, A, H⟩ := H) | (replace H := splB H; rcases H with ⟨rfl, H⟩ | ⟨rfl, H⟩) | (replace H := splN H; obtain ⟨⟨_, _, _⟩, H⟩ := H) | (replace H := spl H; rcases H with ⟨⟨_, _, _⟩, H⟩ | ⟨⟨_, _, _⟩, H⟩))
 all_goals
  with_reducible replace H := Option.some.inj H
  subst H
  go_enter Tryz.func94, Tryz.ntmps94
  go_wp2_with (first
   | ((with_reducible refine gate_callee (f := 46) rfl ?_); refine callD Tryz.func46 (fun h => sign_Space_o.calls (w := _) (h := h)) ?_; intro nd)
   | (go_at_call 29; refine atB (fun h => sign_Begins_o.calls (w := _) (h := h)) ?_; clear HB; intro wq HB))
  all_goals (go_ret; exact ⟨eqr, bw⟩)
def raw_Ends_o.f (a0 : ByteArray) (a1 : Int) (a2 : ByteArray) : Option Bool := if a0.size ≤ 1099511627776 ∧ a2.size ≤ 1099511627776 then some (decide (0 ≤ a1 ∧ a1 ≤ (lb a0).length) && rawE (lb a2) ((lb a0).drop a1.toNat)) else none
theorem raw_Ends_o.sound (a0 : ByteArray) (a1 : Int) (a2 : ByteArray) (r : Bool) (h : raw_Ends_o.f a0 a1 a2 = some r) : ∃ k, raw_Ends.f k a0 a1 a2 = some r := by
 unfold raw_Ends_o.f at h
 split at h
 ·rename_i hs
  refine ⟨1, ?_⟩
  have hl := length_lb a0
  have hl2 := length_lb a2
  rw [← h, raw_Ends.f]
  by_cases z : a2.toList = []
  ·have : lb a2 = [] := by rw [← toList_lb]; exact z
   rw [if_pos z, raw_Ends.j0, if_pos rfl, rawE, this]; simp
  have zl : (lb a2).isEmpty = false := by
   cases e : lb a2 with
   | nil => exact absurd ((toList_lb a2).trans e) z
   | cons _ _ => rfl
  rw [if_neg z, sign_Begins_o.f, if_pos ⟨hs.1, by decide⟩, Option.bind_some, begL_pf, show lb (⟨#[60, 47]⟩ : ByteArray) = [60, 47] from rfl, rawE, zl]
  by_cases c : 0 ≤ a1 ∧ a1 ≤ (lb a0).length
  ·obtain ⟨p, rfl⟩ := Int.eq_ofNat_of_zero_le c.1
   rw [decide_eq_true c, Int.toNat_natCast]
   simp only [Bool.true_and, Bool.not_false]
   cases h1 : pf [60, 47] ((lb a0).drop p) with
   | false => rw [if_neg (by decide), raw_Ends.j0, if_pos rfl]; rfl
   | true =>
    have h4 := pf_len h1
    rw [List.length_drop] at h4
    simp only [List.length_cons, List.length_nil] at h4
    rw [if_pos rfl, w64 (by omega) (by omega), sign_Begins_o.f, if_pos hs, Option.bind_some, begL_pf, decide_eq_true (by omega), Bool.true_and, List.drop_drop, show ((p : Int) + 2).toNat = p + 2 by omega]
    cases h2 : pf (lb a2) ((lb a0).drop (p + 2)) with
    | false => rw [raw_Ends.j0]; rfl
    | true =>
     have h5 := pf_len h2
     rw [List.length_drop] at h5
     rw [raw_Ends.j0, Bool.not_true, if_neg (by decide), w64 (x := (p : Int) + 2) (by omega) (by omega), w64 (by omega) (by omega), List.drop_drop, show (p : Int) + 2 + (a2.size : Int) = ((p + (2 + a2.size) : Nat) : Int) by omega, hl2]
     by_cases q : p + (2 + a2.size) < (lb a0).length
     ·have hr := bt_range a0 ((p + (2 + a2.size) : Nat) : Int)
      have hat : bt a0 ((p + (2 + a2.size) : Nat) : Int) = (((lb a0)[p + (2 + a2.size)].toNat : Nat) : Int) := by rw [bt_lb, Int.toNat_natCast]; simp [at_, List.getD, q]
      rw [if_neg (by omega), if_pos (by omega), if_pos (by omega), List.drop_eq_getElem_cons q]
      simp only []
      rw [sign_Space_o.f, Option.bind_some, hat]
      have sb : spaceI (((lb a0)[p + (2 + a2.size)].toNat : Nat) : Int) = spaceB (lb a0)[p + (2 + a2.size)] := rfl
      rw [sb]
      cases spaceB (lb a0)[p + (2 + a2.size)] with
      | true => rfl
      | false =>
       rw [if_neg (by decide)]
       by_cases c47 : (lb a0)[p + (2 + a2.size)] = 47
       ·rw [if_pos (by rw [c47]; rfl), c47]; rfl
       ·rw [if_neg (fun e => c47 (u8_nat.1 (by show _ = 47; omega))), beq_eq_false_iff_ne.2 c47]
        refine congrArg some ?_
        rw [Bool.eq_iff_iff, beq_iff_eq]
        simp only [Bool.false_or, Bool.true_and, beq_iff_eq]
        constructor
        ·intro e; exact u8_nat.1 (by show _ = 62; omega)
        ·intro e; rw [e]; rfl
     ·rw [if_pos (by omega), List.drop_of_length_le (by omega)]; rfl
  ·rw [decide_eq_false c]
   simp only [Bool.false_and]
   rw [if_neg (by decide), raw_Ends.j0, if_pos rfl]
 ·cases h
theorem raw_Ends_o.calls (a0 : ByteArray) (a1 : Int) (a2 : ByteArray) (r : Bool) (w : World) (h : raw_Ends_o.f a0 a1 a2 = some r) :
 Calls Tryz.prog 94 #[.string a0, .int .i64 a1, .string a2] w fun e w' => e = .returned (.bool r) ∧ Below w.heap.size w w' := by
 obtain ⟨k, hk⟩ := raw_Ends_o.sound _ _ _ _ h
 exact raw_Ends.calls k a0 a1 a2 r w hk
end
end Go.Proofs.YtfnnnaiegiekiaaGreatDoor.P
