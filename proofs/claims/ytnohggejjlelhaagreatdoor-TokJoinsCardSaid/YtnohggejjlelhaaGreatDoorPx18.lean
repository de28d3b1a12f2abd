-- pruned2
/- Printed by a program of this session over the kit's print.py: functions of the Go program told as Lean functions, each with the proof that its call answers so. No conditions. -/
import Derived.Test.YtnohggejjlelhaaGreatDoorPx0
import Derived.Test.YtnohggejjlelhaaGreatDoorPx4
import Derived.Test.YtnohggejjlelhaaGreatDoorPx5
import Derived.Test.YtnohggejjlelhaaGreatDoorPx17
namespace Go.Proofs.YtnohggejjlelhaaGreatDoor.P
open Go.RowKit Go.Proofs.YtnohggejjlelhaaGreatDoor.G Go.Proofs.YtnohggejjlelhaaGreatDoorW.PrintWords Go.Proofs.YtnohggejjlelhaaGreatDoorW.PrintLast Go.Proofs.YtnohggejjlelhaaGreatDoorW.PrintMore
attribute [local go_sem high] G.str_leq G.str_gtr
attribute [local go_sem] max2_int min2_int max_two min_two max_three min_three max_four min_four   -- for this text's walks alone
set_option linter.unusedVariables false
set_option linter.unusedSimpArgs false
noncomputable section

/-! ### tag_Read: function 17 -/
noncomputable def tagF (s : List UInt8) (p n : Nat) : Int × ByteArray × ByteArray × List S45 × Bool × Int × Bool :=
  if (finA [] (p + n + wdU [47, 62] (s.drop (p + n))) (s.drop (p + n + wdU [47, 62] (s.drop (p + n))))).2.2.2 = true then
    (if n = 1 then (1, bs (cleanL (low ((s.drop (p + n)).take (wdU [47, 62] (s.drop (p + n)))))), ⟨#[]⟩, (finA [] (p + n + wdU [47, 62] (s.drop (p + n))) (s.drop (p + n + wdU [47, 62] (s.drop (p + n))))).1, (finA [] (p + n + wdU [47, 62] (s.drop (p + n))) (s.drop (p + n + wdU [47, 62] (s.drop (p + n))))).2.1, (finA [] (p + n + wdU [47, 62] (s.drop (p + n))) (s.drop (p + n + wdU [47, 62] (s.drop (p + n))))).2.2.1, true)
    else (2, bs (cleanL (low ((s.drop (p + n)).take (wdU [47, 62] (s.drop (p + n)))))), ⟨#[]⟩, [], false, (finA [] (p + n + wdU [47, 62] (s.drop (p + n))) (s.drop (p + n + wdU [47, 62] (s.drop (p + n))))).2.2.1, true))
  else (0, ⟨#[]⟩, ⟨#[]⟩, [], false, (s.length : Int), false)
noncomputable def tag_Read.f (a0 : ByteArray) (a1 : Int) : Option (Int × ByteArray × ByteArray × List S45 × Bool × Int × Bool) := if a0.size ≤ 100000000 ∧ -9223372036854775808 ≤ a1 ∧ a1 ≤ 9223372036854775807 then some (if tagN (lb a0) a1 = 0 then (0, ⟨#[]⟩, ⟨#[]⟩, [], false, a1, false) else tagF (lb a0) a1.toNat (tagN (lb a0) a1).toNat) else none
def tkC : Array Value := #[.int .i64 0, .string ⟨#[]⟩, .string ⟨#[]⟩, .slice none 0 0, .bool false]
def TkA (w W : World) : Prop := W.heap[w.heap.size]? = some (.cells tkC 28 (0, 0)) ∧ Below w.heap.size w W
section
variable {w W W1 : World}
theorem TkA.below (h : TkA w W) (hb : Below W.heap.size W W1) : TkA w W1 := ⟨blk_below h.1 hb, below_step h.2 hb⟩
theorem TkA.drewN (h : TkA w W) (m : Nat) : TkA w (W.drewN m) := h.below (pw_below_drewN (Below.refl _ _) m)
theorem TkA.drew (h : TkA w W) : TkA w W.drew := h.below (below_drew1 (Below.refl _ _))
theorem TkA.alloc (h : TkA w W) (o : Obj) : TkA w (W.alloc o) := h.below (below_alloc (Below.refl _ _) o)
theorem TkA.new (w : World) : TkA w (w.alloc (.cells #[.int .i64 0, .string ⟨#[]⟩, .string ⟨#[]⟩, .slice none 0 0, .bool false] 28)) := ⟨heap_alloc_new w (.cells tkC 28), below_alloc (Below.refl _ _) _⟩
theorem TkA.c0 (h : TkA w W) : W.cell? ⟨w.heap.size, 0, none⟩ = some (.int .i64 0) := (blk_cell h.1 0).trans rfl
theorem TkA.c1 (h : TkA w W) : W.cell? ⟨w.heap.size, 1, none⟩ = some (.string ⟨#[]⟩) := (blk_cell h.1 1).trans rfl
theorem TkA.c2 (h : TkA w W) : W.cell? ⟨w.heap.size, 2, none⟩ = some (.string ⟨#[]⟩) := (blk_cell h.1 2).trans rfl
theorem TkA.c3 (h : TkA w W) : W.cell? ⟨w.heap.size, 3, none⟩ = some (.slice none 0 0) := (blk_cell h.1 3).trans rfl
theorem TkA.c4 (h : TkA w W) : W.cell? ⟨w.heap.size, 4, none⟩ = some (.bool false) := (blk_cell h.1 4).trans rfl
theorem TkA.f0 (h : TkA w W) (i : Nat) : W.frozen? ⟨w.heap.size, i, none⟩ = false := blk_frozen h.1 i
def putTk (W : World) (g : Nat) (a b c d e : Value) : World := ((((W.setCell ⟨g, 0, none⟩ a).setCell ⟨g, 1, none⟩ b).setCell ⟨g, 2, none⟩ c).setCell ⟨g, 3, none⟩ d).setCell ⟨g, 4, none⟩ e
theorem TkA.put (h : TkA w W) (a b c d e : Value) : (putTk W w.heap.size a b c d e).heap[w.heap.size]? = some (.cells #[a, b, c, d, e] 28 (0, 0)) := by
  unfold putTk
  refine blk_put (cs := #[a, b, c, d, .bool false]) ?_ 4 _ rfl
  refine blk_put (cs := #[a, b, c, .slice none 0 0, .bool false]) ?_ 3 _ rfl
  refine blk_put (cs := #[a, b, .string ⟨#[]⟩, .slice none 0 0, .bool false]) ?_ 2 _ rfl
  refine blk_put (cs := #[a, .string ⟨#[]⟩, .string ⟨#[]⟩, .slice none 0 0, .bool false]) ?_ 1 _ rfl
  exact blk_put (cs := tkC) h.1 0 _ rfl
theorem TkA.putB (h : TkA w W) (a b c d e : Value) : Below w.heap.size w (putTk W w.heap.size a b c d e) := by
  unfold putTk
  exact below_set (below_set (below_set (below_set (below_set h.2 (Nat.le_refl _)) (Nat.le_refl _)) (Nat.le_refl _)) (Nat.le_refl _)) (Nat.le_refl _)
theorem TkA.putR (h : TkA w W) {v : Value} {l : List S45} (ho : Kd.R k45 45 W w.heap.size (fun _ => True) v l) (a b c d e : Value) : Kd.R k45 45 (putTk W w.heap.size a b c d e) w.heap.size (fun _ => True) v l := by
  unfold putTk
  exact Kd.R_mono (Kd.R_far (p := ⟨w.heap.size, 4, none⟩) (Kd.R_far (p := ⟨w.heap.size, 3, none⟩) (Kd.R_far (p := ⟨w.heap.size, 2, none⟩) (Kd.R_far (p := ⟨w.heap.size, 1, none⟩) (Kd.R_far (p := ⟨w.heap.size, 0, none⟩) (Kd.R_types ho h.1 (by decide)) (fun _ hk => hk.2) _) (fun _ hk => hk.2) _) (fun _ hk => hk.2) _) (fun _ hk => hk.2) _) (fun _ hk => hk.2) _) (fun _ _ => trivial)
end
/- the walk -/
theorem TkA.low {w W : World} (h : TkA w W) : Below w.heap.size w W := h.2
set_option maxHeartbeats 8000000 in
set_option maxRecDepth 100000 in
theorem tag_Read.none_ (s : ByteArray) (a1 : Int) (w : World) (hN : tag_place_name.f s a1 = some 0) : Calls Tryz.prog 17 #[.string s, .int .i64 a1] w fun e w' => ∃ v3_ : Value, e = .returned (.tuple #[.agg #[.int .i64 0, .string ⟨#[]⟩, .string ⟨#[]⟩, v3_, .bool false], .int .i64 a1, .bool false]) ∧ Kd.R k45 45 w' w.heap.size (fun _ => True) v3_ [] ∧ Below w.heap.size w w' := by
  have HA := Aside0.mk (TkA.new w)
  have N1 := Lib.hid (fun W => tag_place_name.calls s a1 0 W hN)
  clear hN
  go_enter Tryz.func17, Tryz.ntmps17
  go_wp2_with fail
  refine (N1.out _).mono ?_
  rintro e wq ⟨rfl, hb⟩
  have hA := TkA.below (by exact HA.out) hb
  clear HA hb
  have HA := Aside0.mk hA
  have c0 := hA.c0
  have c1 := hA.c1
  have c2 := hA.c2
  have c3 := hA.c3
  have c4 := hA.c4
  have f0 := hA.f0 0
  have f1 := hA.f0 1
  have f2 := hA.f0 2
  have f3 := hA.f0 3
  have f4 := hA.f0 4
  clear hA
  go_wp2
  refine bodyPost_ret (results_ctt rfl _ _ w.heap.size 28 #[.int .i64 0, .string ⟨#[]⟩, .string ⟨#[]⟩, .slice none 0 0, .bool false] (0, 0) _ rfl (TkA.put (by exact HA.out) (.int .i64 0) (.string ⟨#[]⟩) (.string ⟨#[]⟩) (.slice none 0 0) (.bool false)) Tryz.underlying28 rfl (by kernel_rfl)) rfl ?_
  exact ⟨_, rfl, Kd.R_nil _ _ _ _ _, TkA.putB (by exact HA.out) _ _ _ _ _⟩
set_option maxHeartbeats 8000000 in
set_option maxRecDepth 100000 in
theorem tag_Read.open_ (s : ByteArray) (p n f t : Nat) (w : World) (hG : GW w) (hs : s.size ≤ 100000000) (hf : p + n = f) (hfs : f ≤ s.size) (ht : f + wdU [47, 62] ((lb s).drop f) = t) (hn : 1 ≤ n ∧ n ≤ 2) (hN : tag_place_name.f s (p : Int) = some (n : Int)) (la : List S45) (sf : Bool) (m : Nat) (hA : attrs_Read.f s (t : Int) = some (la, sf, (m : Int), false)) :
    Calls Tryz.prog 17 #[.string s, .int .i64 (p : Int)] w fun e w' => ∃ v3_ : Value, e = .returned (.tuple #[.agg #[.int .i64 0, .string ⟨#[]⟩, .string ⟨#[]⟩, v3_, .bool false], .int .i64 (s.size : Int), .bool false]) ∧ Kd.R k45 45 w' w.heap.size (fun _ => True) v3_ [] ∧ Below w.heap.size w w' := by
  have HA := Aside0.mk (TkA.new w)
  have HG := Aside0.mk hG
  have hsz := length_lb s
  have hw := wdU_le [47, 62] ((lb s).drop f)
  rw [List.length_drop, hsz] at hw
  have N1 := Lib.hid (fun W => tag_place_name.calls s p n W hN)
  have z0 : ((n : Int) == 0) = false := beq_eq_false_iff_ne.2 (by omega)
  have HQ0 := Lib.hid (show f ≤ f ∧ f + (t - f) = t ∧ f + wdU [47, 62] ((lb s).drop f) = t from ⟨Nat.le_refl _, by omega, ht⟩)
  have HT := Lib.hid (show f ≤ t ∧ t ≤ s.size from ⟨by omega, by omega⟩)
  have HS := Lib.hid hs
  have b1 : (0 : Int) ≤ (p : Int) := by omega
  have b2 : (p : Int) ≤ 1099511627776 := by omega
  have b3 : (1 : Int) ≤ (n : Int) := by omega
  have b4 : (n : Int) ≤ 2 := by omega
  have HF := Lib.hid (show (p : Int) + (n : Int) = (f : Int) by omega)
  have A1 := Lib.hid (fun W g => attrs_Read.calls s (t : Int) la sf (m : Int) false W hA g)
  clear hA
  clear hG hs hsz hw hfs ht hn hN hf
  go_enter Tryz.func17, Tryz.ntmps17
  go_wp2_with fail
  refine (N1.out _).mono ?_
  rintro e wq ⟨rfl, hb⟩
  have hA := TkA.below (by exact HA.out) hb
  clear HA hb
  have HA := Aside0.mk hA
  have c0 := hA.c0
  have c1 := hA.c1
  have c2 := hA.c2
  have c3 := hA.c3
  have c4 := hA.c4
  have f0 := hA.f0 0
  have f1 := hA.f0 1
  have f2 := hA.f0 2
  have f3 := hA.f0 3
  have f4 := hA.f0 4
  clear hA
  go_upto_block 0 with (fail)
  go_cut [10] (fun v10 wc => v10 = .int .i64 (t : Int) ∧ Aside0 (TkA w wc))
  case first =>
    go_wp2
    go_loopg [10] (t - f) (fun gg v10 w' => ∃ q : Nat, v10 = .int .i64 (q : Int) ∧ Hid (f ≤ q ∧ q + gg = t ∧ q + wdU [47, 62] ((lb s).drop q) = t) ∧ Aside0 (TkA w w'))
    case atStart => exact ⟨f, by rw [← HF.out], HQ0, ⟨by exact HA.out⟩⟩
    case round =>
      clear HA c0 c1 c2 c3 c4 f0 f1 f2 f3 f4
      obtain ⟨q, rfl, hq, HA⟩ := hrel
      have hq1 := hq.out
      have hT := HT.out
      have hS := HS.out
      have hsz := length_lb s
      have b5 : (0 : Int) ≤ (q : Int) := by omega
      have b6 : (q : Int) ≤ 1099511627776 := by omega
      by_cases e1 : q = s.size
      · have HQE := Lib.hid (show q = t by omega)
        have d1 : decide ((q : Int) < (s.size : Int)) = false := decide_eq_false (by omega)
        have d2 : decide (q < s.size) = false := decide_eq_false (by omega)
        clear hq hq1 hT hS hsz e1
        go_wp2
        go_meet
        case rel => (exact ⟨by rw [HQE.out], ⟨by exact HA.out⟩⟩)
      have hlt : q < s.size := by omega
      have hlt2 : q < (lb s).length := by omega
      have d1 : decide ((q : Int) < (s.size : Int)) = true := decide_eq_true (by omega)
      have p5 : 0 ≤ (q : Int) := b5
      have q5 : (q : Int) < (s.size : Int) := by omega
      have hx5 : ∀ h : q < s.size, ((s[q]'h).toNat : Int) = bt s (q : Int) := fun h => bt_at s ((q : Nat) : Int) h
      have hb5 : bt s (q : Int) = (((lb s)[q].toNat : Nat) : Int) := by rw [bt_lb, Int.toNat_natCast]; simp [at_, List.getD, hlt2]
      have hd := List.drop_eq_getElem_cons hlt2
      rw [hd, wdU] at hq1
      have hsp : sign_Space_o.f (bt s (q : Int)) = some (spaceB (lb s)[q]) := by rw [sign_Space_o.f, hb5]; rfl
      replace p5 := eq_true p5
      replace q5 := eq_true q5
      cases e2 : spaceB (lb s)[q] with
      | true =>
        rw [if_pos e2] at hq1
        have HQE := Lib.hid (show q = t by omega)
        have SP1 := Lib.hid (fun W => sign_Space_o.calls (bt s (q : Int)) true W (by rw [hsp, e2]))
        clear hq hq1 hT hS hsz e1 e2 hlt hlt2 hb5 hd hsp
        go_wp2_with fail
        refine (SP1.out _).mono ?_
        rintro e wq ⟨rfl, ⟨nd, rfl⟩⟩
        go_wp2
        go_meet
        case rel => (exact ⟨by rw [HQE.out], ⟨by repeat (first | (with_reducible exact HA.out) | (with_reducible apply TkA.drewN))⟩⟩)
      | false =>
        rw [if_neg (by rw [e2]; decide)] at hq1
        have SP1 := Lib.hid (fun W => sign_Space_o.calls (bt s (q : Int)) false W (by rw [hsp, e2]))
        by_cases e3 : (lb s)[q] = 47
        · rw [if_pos (by rw [e3]; decide)] at hq1
          have HQE := Lib.hid (show q = t by omega)
          have d3 : (bt s (q : Int) != 47) = false := by rw [hb5, e3]; rfl
          clear hq hq1 hT hS hsz e1 e2 e3 hlt hlt2 hb5 hd hsp
          go_wp2_with fail
          refine (SP1.out _).mono ?_
          rintro e wq ⟨rfl, ⟨nd, rfl⟩⟩
          go_wp2
          go_meet
          case rel => (exact ⟨by rw [HQE.out], ⟨by repeat (first | (with_reducible exact HA.out) | (with_reducible apply TkA.drewN))⟩⟩)
        have d3 : (bt s (q : Int) != 47) = true := by rw [hb5]; exact bne_iff_ne.2 (fun e => e3 (u8_nat.1 (by show _ = 47; omega)))
        by_cases e4 : (lb s)[q] = 62
        · rw [if_pos (by rw [e4]; decide)] at hq1
          have HQE := Lib.hid (show q = t by omega)
          have d4 : (bt s (q : Int) != 62) = false := by rw [hb5, e4]; rfl
          clear hq hq1 hT hS hsz e1 e2 e3 e4 hlt hlt2 hb5 hd hsp
          go_wp2_with fail
          refine (SP1.out _).mono ?_
          rintro e wq ⟨rfl, ⟨nd, rfl⟩⟩
          go_wp2
          go_meet
          case rel => (exact ⟨by rw [HQE.out], ⟨by repeat (first | (with_reducible exact HA.out) | (with_reducible apply TkA.drewN))⟩⟩)
        have d4 : (bt s (q : Int) != 62) = true := by rw [hb5]; exact bne_iff_ne.2 (fun e => e4 (u8_nat.1 (by show _ = 62; omega)))
        rw [if_neg (by simp only [List.mem_cons, List.not_mem_nil, or_false, not_or]; exact ⟨e3, e4⟩)] at hq1
        have HK := Lib.hid (show gk = (t - (q + 1)) + 1 by omega)
        have HQ1 := Lib.hid (show f ≤ q + 1 ∧ q + 1 + (t - (q + 1)) = t ∧ q + 1 + wdU [47, 62] ((lb s).drop (q + 1)) = t from ⟨by omega, by omega, by omega⟩)
        clear hq hq1 hT hS hsz e1 e2 e3 e4 hlt hlt2 hb5 hd hsp
        go_wp2_with fail
        refine (SP1.out _).mono ?_
        rintro e wq ⟨rfl, ⟨nd, rfl⟩⟩
        go_wp2
        go_roundg (t - (q + 1))
        case measure => have := HK.out; omega
        case rel => (exact ⟨q + 1, rfl, HQ1, ⟨by repeat (first | (with_reducible exact HA.out) | (with_reducible apply TkA.drewN))⟩⟩)
  case rest =>
    try clear HA c0 c1 c2 c3 c4 f0 f1 f2 f3 f4
    obtain ⟨rfl, HA⟩ := hcut
    go_wp2_with fail
    refine (A1.out _ (HG.out.below (TkA.low (by exact HA.out)))).mono ?_
    rintro e wq ⟨v0, rfl, ho, hb⟩
    have hsize := below_size (TkA.low (show TkA w _ from by exact HA.out))
    obtain ⟨Ao, co, eo⟩ := Kd.R_slice ho
    subst eo
    have HO := Aside0.mk (Kd.R_lower ho hsize)
    have hA := TkA.below (by exact HA.out) hb
    clear HA hb
    have HA := Aside0.mk hA
    have c0 := hA.c0
    have c1 := hA.c1
    have c2 := hA.c2
    have c3 := hA.c3
    have c4 := hA.c4
    have f0 := hA.f0 0
    have f1 := hA.f0 1
    have f2 := hA.f0 2
    have f3 := hA.f0 3
    have f4 := hA.f0 4
    clear hA
    clear ho hsize
    go_wp2
    refine bodyPost_ret (results_ctt rfl _ _ w.heap.size 28 #[.int .i64 0, .string ⟨#[]⟩, .string ⟨#[]⟩, .slice none 0 0, .bool false] (0, 0) _ rfl (TkA.put (by exact HA.out) (.int .i64 0) (.string ⟨#[]⟩) (.string ⟨#[]⟩) (.slice none 0 0) (.bool false)) Tryz.underlying28 rfl (by kernel_rfl)) rfl ?_
    exact ⟨_, rfl, Kd.R_nil _ _ _ _ _, TkA.putB (by exact HA.out) _ _ _ _ _⟩
set_option maxHeartbeats 8000000 in
set_option maxRecDepth 100000 in
theorem tag_Read.start_ (s : ByteArray) (p n f t : Nat) (w : World) (hG : GW w) (hs : s.size ≤ 100000000) (hf : p + n = f) (hfs : f ≤ s.size) (ht : f + wdU [47, 62] ((lb s).drop f) = t) (hn : 1 ≤ n ∧ n ≤ 2) (hN : tag_place_name.f s (p : Int) = some (n : Int)) (la : List S45) (sf : Bool) (m : Nat) (hm : m ≤ s.size) (hk : n = 1) (hA : attrs_Read.f s (t : Int) = some (la, sf, (m : Int), true)) :
    Calls Tryz.prog 17 #[.string s, .int .i64 (p : Int)] w fun e w' => ∃ v3_ : Value, e = .returned (.tuple #[.agg #[.int .i64 1, .string (bs (cleanL (low (((lb s).drop f).take (wdU [47, 62] ((lb s).drop f)))))), .string ⟨#[]⟩, v3_, .bool sf], .int .i64 (m : Int), .bool true]) ∧ Kd.R k45 45 w' w.heap.size (fun _ => True) v3_ la ∧ Below w.heap.size w w' := by
  have HA := Aside0.mk (TkA.new w)
  have HG := Aside0.mk hG
  have hsz := length_lb s
  have hw := wdU_le [47, 62] ((lb s).drop f)
  rw [List.length_drop, hsz] at hw
  have N1 := Lib.hid (fun W => tag_place_name.calls s p n W hN)
  have z0 : ((n : Int) == 0) = false := beq_eq_false_iff_ne.2 (by omega)
  have HQ0 := Lib.hid (show f ≤ f ∧ f + (t - f) = t ∧ f + wdU [47, 62] ((lb s).drop f) = t from ⟨Nat.le_refl _, by omega, ht⟩)
  have HT := Lib.hid (show f ≤ t ∧ t ≤ s.size from ⟨by omega, by omega⟩)
  have HS := Lib.hid hs
  have b1 : (0 : Int) ≤ (p : Int) := by omega
  have b2 : (p : Int) ≤ 1099511627776 := by omega
  have b3 : (1 : Int) ≤ (n : Int) := by omega
  have b4 : (n : Int) ≤ 2 := by omega
  have HF := Lib.hid (show (p : Int) + (n : Int) = (f : Int) by omega)
  have A1 := Lib.hid (fun W g => attrs_Read.calls s (t : Int) la sf (m : Int) true W hA g)
  clear hA
  have z1 : decide ((n : Int) > 1) = false := decide_eq_false (by omega)
  have z2 : decide (1 < n) = false := decide_eq_false (by omega)
  have hnl : ((lb s).drop f).take (t - f) = ((lb s).drop f).take (wdU [47, 62] ((lb s).drop f)) := by rw [show t - f = wdU [47, 62] ((lb s).drop f) by omega]
  have ex : s.extract f t = bs (((lb s).drop f).take (wdU [47, 62] ((lb s).drop f))) := lb_inj (by rw [lb_extract, lb_bs, hnl])
  obtain ⟨x, hx⟩ : ∃ x, ((lb s).drop f).take (wdU [47, 62] ((lb s).drop f)) = x := ⟨_, rfl⟩
  have hxl : x.length ≤ 100000000 := by rw [← hx, List.length_take]; omega
  rw [hx] at ex
  rw [hx]
  have L1 := Lib.hid (fun W => sign_Lower.calls (bs x) (bs (low x)) W (by rw [sign_Lower.f, if_pos (by rw [size_bs]; omega), lowS, lb_bs]))
  have C1 := Lib.hid (fun W g => lines_Clean.calls (bs (low x)) (bs (cleanL (low x))) W (by rw [lines_Clean.f, if_pos (by rw [size_bs, low_length]; omega), lb_bs]) g)
  have hsl1 : ∀ U : World, (Instr.slice 9 (.string s) (some (.int .i64 ((p : Int) + (n : Int)))) (some (.int .i64 (t : Int))) none).run Tryz.prog U = .ok (.string (bs x)) U := fun U => by
    have := run_slice_string (P := Tryz.prog) U 9 s .i64 .i64 ((p : Int) + (n : Int)) (t : Int) Tryz.underlying9 (by omega) (by omega) (by omega)
    rw [show ((p : Int) + (n : Int)).toNat = f by omega, Int.toNat_natCast, ex] at this; exact this
  clear hnl ex hx hxl hm hk
  clear hG hs hsz hw hfs ht hn hN hf
  go_enter Tryz.func17, Tryz.ntmps17
  go_wp2_with fail
  refine (N1.out _).mono ?_
  rintro e wq ⟨rfl, hb⟩
  have hA := TkA.below (by exact HA.out) hb
  clear HA hb
  have HA := Aside0.mk hA
  have c0 := hA.c0
  have c1 := hA.c1
  have c2 := hA.c2
  have c3 := hA.c3
  have c4 := hA.c4
  have f0 := hA.f0 0
  have f1 := hA.f0 1
  have f2 := hA.f0 2
  have f3 := hA.f0 3
  have f4 := hA.f0 4
  clear hA
  go_upto_block 0 with (fail)
  go_cut [10] (fun v10 wc => v10 = .int .i64 (t : Int) ∧ Aside0 (TkA w wc))
  case first =>
    go_wp2
    go_loopg [10] (t - f) (fun gg v10 w' => ∃ q : Nat, v10 = .int .i64 (q : Int) ∧ Hid (f ≤ q ∧ q + gg = t ∧ q + wdU [47, 62] ((lb s).drop q) = t) ∧ Aside0 (TkA w w'))
    case atStart => exact ⟨f, by rw [← HF.out], HQ0, ⟨by exact HA.out⟩⟩
    case round =>
      clear HA c0 c1 c2 c3 c4 f0 f1 f2 f3 f4
      obtain ⟨q, rfl, hq, HA⟩ := hrel
      have hq1 := hq.out
      have hT := HT.out
      have hS := HS.out
      have hsz := length_lb s
      have b5 : (0 : Int) ≤ (q : Int) := by omega
      have b6 : (q : Int) ≤ 1099511627776 := by omega
      by_cases e1 : q = s.size
      · have HQE := Lib.hid (show q = t by omega)
        have d1 : decide ((q : Int) < (s.size : Int)) = false := decide_eq_false (by omega)
        have d2 : decide (q < s.size) = false := decide_eq_false (by omega)
        clear hq hq1 hT hS hsz e1
        go_wp2
        go_meet
        case rel => (exact ⟨by rw [HQE.out], ⟨by exact HA.out⟩⟩)
      have hlt : q < s.size := by omega
      have hlt2 : q < (lb s).length := by omega
      have d1 : decide ((q : Int) < (s.size : Int)) = true := decide_eq_true (by omega)
      have p5 : 0 ≤ (q : Int) := b5
      have q5 : (q : Int) < (s.size : Int) := by omega
      have hx5 : ∀ h : q < s.size, ((s[q]'h).toNat : Int) = bt s (q : Int) := fun h => bt_at s ((q : Nat) : Int) h
      have hb5 : bt s (q : Int) = (((lb s)[q].toNat : Nat) : Int) := by rw [bt_lb, Int.toNat_natCast]; simp [at_, List.getD, hlt2]
      have hd := List.drop_eq_getElem_cons hlt2
      rw [hd, wdU] at hq1
      have hsp : sign_Space_o.f (bt s (q : Int)) = some (spaceB (lb s)[q]) := by rw [sign_Space_o.f, hb5]; rfl
      replace p5 := eq_true p5
      replace q5 := eq_true q5
      cases e2 : spaceB (lb s)[q] with
      | true =>
        rw [if_pos e2] at hq1
        have HQE := Lib.hid (show q = t by omega)
        have SP1 := Lib.hid (fun W => sign_Space_o.calls (bt s (q : Int)) true W (by rw [hsp, e2]))
        clear hq hq1 hT hS hsz e1 e2 hlt hlt2 hb5 hd hsp
        go_wp2_with fail
        refine (SP1.out _).mono ?_
        rintro e wq ⟨rfl, ⟨nd, rfl⟩⟩
        go_wp2
        go_meet
        case rel => (exact ⟨by rw [HQE.out], ⟨by repeat (first | (with_reducible exact HA.out) | (with_reducible apply TkA.drewN))⟩⟩)
      | false =>
        rw [if_neg (by rw [e2]; decide)] at hq1
        have SP1 := Lib.hid (fun W => sign_Space_o.calls (bt s (q : Int)) false W (by rw [hsp, e2]))
        by_cases e3 : (lb s)[q] = 47
        · rw [if_pos (by rw [e3]; decide)] at hq1
          have HQE := Lib.hid (show q = t by omega)
          have d3 : (bt s (q : Int) != 47) = false := by rw [hb5, e3]; rfl
          clear hq hq1 hT hS hsz e1 e2 e3 hlt hlt2 hb5 hd hsp
          go_wp2_with fail
          refine (SP1.out _).mono ?_
          rintro e wq ⟨rfl, ⟨nd, rfl⟩⟩
          go_wp2
          go_meet
          case rel => (exact ⟨by rw [HQE.out], ⟨by repeat (first | (with_reducible exact HA.out) | (with_reducible apply TkA.drewN))⟩⟩)
        have d3 : (bt s (q : Int) != 47) = true := by rw [hb5]; exact bne_iff_ne.2 (fun e => e3 (u8_nat.1 (by show _ = 47; omega)))
        by_cases e4 : (lb s)[q] = 62
        · rw [if_pos (by rw [e4]; decide)] at hq1
          have HQE := Lib.hid (show q = t by omega)
          have d4 : (bt s (q : Int) != 62) = false := by rw [hb5, e4]; rfl
          clear hq hq1 hT hS hsz e1 e2 e3 e4 hlt hlt2 hb5 hd hsp
          go_wp2_with fail
          refine (SP1.out _).mono ?_
          rintro e wq ⟨rfl, ⟨nd, rfl⟩⟩
          go_wp2
          go_meet
          case rel => (exact ⟨by rw [HQE.out], ⟨by repeat (first | (with_reducible exact HA.out) | (with_reducible apply TkA.drewN))⟩⟩)
        have d4 : (bt s (q : Int) != 62) = true := by rw [hb5]; exact bne_iff_ne.2 (fun e => e4 (u8_nat.1 (by show _ = 62; omega)))
        rw [if_neg (by simp only [List.mem_cons, List.not_mem_nil, or_false, not_or]; exact ⟨e3, e4⟩)] at hq1
        have HK := Lib.hid (show gk = (t - (q + 1)) + 1 by omega)
        have HQ1 := Lib.hid (show f ≤ q + 1 ∧ q + 1 + (t - (q + 1)) = t ∧ q + 1 + wdU [47, 62] ((lb s).drop (q + 1)) = t from ⟨by omega, by omega, by omega⟩)
        clear hq hq1 hT hS hsz e1 e2 e3 e4 hlt hlt2 hb5 hd hsp
        go_wp2_with fail
        refine (SP1.out _).mono ?_
        rintro e wq ⟨rfl, ⟨nd, rfl⟩⟩
        go_wp2
        go_roundg (t - (q + 1))
        case measure => have := HK.out; omega
        case rel => (exact ⟨q + 1, rfl, HQ1, ⟨by repeat (first | (with_reducible exact HA.out) | (with_reducible apply TkA.drewN))⟩⟩)
  case rest =>
    try clear HA c0 c1 c2 c3 c4 f0 f1 f2 f3 f4
    obtain ⟨rfl, HA⟩ := hcut
    go_wp2_with fail
    refine (A1.out _ (HG.out.below (TkA.low (by exact HA.out)))).mono ?_
    rintro e wq ⟨v0, rfl, ho, hb⟩
    have hsize := below_size (TkA.low (show TkA w _ from by exact HA.out))
    obtain ⟨Ao, co, eo⟩ := Kd.R_slice ho
    subst eo
    have HO := Aside0.mk (Kd.R_lower ho hsize)
    have hA := TkA.below (by exact HA.out) hb
    clear HA hb
    have HA := Aside0.mk hA
    have c0 := hA.c0
    have c1 := hA.c1
    have c2 := hA.c2
    have c3 := hA.c3
    have c4 := hA.c4
    have f0 := hA.f0 0
    have f1 := hA.f0 1
    have f2 := hA.f0 2
    have f3 := hA.f0 3
    have f4 := hA.f0 4
    clear hA
    clear ho hsize
    go_wp2_with fail
    refine (L1.out _).mono ?_
    rintro e wq ⟨rfl, hb⟩
    have hO := Kd.R_below (by exact HO.out) hb
    have hA := TkA.below (by exact HA.out) hb
    clear HA hb c0 c1 c2 c3 c4 f0 f1 f2 f3 f4
    have HA := Aside0.mk hA
    have c0 := hA.c0
    have c1 := hA.c1
    have c2 := hA.c2
    have c3 := hA.c3
    have c4 := hA.c4
    have f0 := hA.f0 0
    have f1 := hA.f0 1
    have f2 := hA.f0 2
    have f3 := hA.f0 3
    have f4 := hA.f0 4
    clear hA
    clear HO
    have HO := Aside0.mk hO
    clear hO
    go_wp2_with fail
    refine (C1.out _ (HG.out.below (TkA.low (by exact HA.out)))).mono ?_
    rintro e wq ⟨rfl, hb⟩
    have hO := Kd.R_below (by exact HO.out) hb
    have hA := TkA.below (by exact HA.out) hb
    clear HA hb c0 c1 c2 c3 c4 f0 f1 f2 f3 f4
    have HA := Aside0.mk hA
    have c0 := hA.c0
    have c1 := hA.c1
    have c2 := hA.c2
    have c3 := hA.c3
    have c4 := hA.c4
    have f0 := hA.f0 0
    have f1 := hA.f0 1
    have f2 := hA.f0 2
    have f3 := hA.f0 3
    have f4 := hA.f0 4
    clear hA
    clear HO
    have HO := Aside0.mk hO
    clear hO
    go_wp2
    refine bodyPost_ret (results_ctt rfl _ _ w.heap.size 28 #[.int .i64 1, .string (bs (cleanL (low x))), .string ⟨#[]⟩, .slice Ao la.length co, .bool sf] (0, 0) _ rfl (TkA.put (by exact HA.out) (.int .i64 1) (.string (bs (cleanL (low x)))) (.string ⟨#[]⟩) (.slice Ao la.length co) (.bool sf)) Tryz.underlying28 rfl (by kernel_rfl)) rfl ?_
    exact ⟨_, rfl, TkA.putR (by exact HA.out) (by exact HO.out) _ _ _ _ _, TkA.putB (by exact HA.out) _ _ _ _ _⟩
set_option maxHeartbeats 8000000 in
set_option maxRecDepth 100000 in
theorem tag_Read.stop_ (s : ByteArray) (p n f t : Nat) (w : World) (hG : GW w) (hs : s.size ≤ 100000000) (hf : p + n = f) (hfs : f ≤ s.size) (ht : f + wdU [47, 62] ((lb s).drop f) = t) (hn : 1 ≤ n ∧ n ≤ 2) (hN : tag_place_name.f s (p : Int) = some (n : Int)) (la : List S45) (sf : Bool) (m : Nat) (hm : m ≤ s.size) (hk : n = 2) (hA : attrs_Read.f s (t : Int) = some (la, sf, (m : Int), true)) :
    Calls Tryz.prog 17 #[.string s, .int .i64 (p : Int)] w fun e w' => ∃ v3_ : Value, e = .returned (.tuple #[.agg #[.int .i64 2, .string (bs (cleanL (low (((lb s).drop f).take (wdU [47, 62] ((lb s).drop f)))))), .string ⟨#[]⟩, v3_, .bool false], .int .i64 (m : Int), .bool true]) ∧ Kd.R k45 45 w' w.heap.size (fun _ => True) v3_ [] ∧ Below w.heap.size w w' := by
  have HA := Aside0.mk (TkA.new w)
  have HG := Aside0.mk hG
  have hsz := length_lb s
  have hw := wdU_le [47, 62] ((lb s).drop f)
  rw [List.length_drop, hsz] at hw
  have N1 := Lib.hid (fun W => tag_place_name.calls s p n W hN)
  have z0 : ((n : Int) == 0) = false := beq_eq_false_iff_ne.2 (by omega)
  have HQ0 := Lib.hid (show f ≤ f ∧ f + (t - f) = t ∧ f + wdU [47, 62] ((lb s).drop f) = t from ⟨Nat.le_refl _, by omega, ht⟩)
  have HT := Lib.hid (show f ≤ t ∧ t ≤ s.size from ⟨by omega, by omega⟩)
  have HS := Lib.hid hs
  have b1 : (0 : Int) ≤ (p : Int) := by omega
  have b2 : (p : Int) ≤ 1099511627776 := by omega
  have b3 : (1 : Int) ≤ (n : Int) := by omega
  have b4 : (n : Int) ≤ 2 := by omega
  have HF := Lib.hid (show (p : Int) + (n : Int) = (f : Int) by omega)
  have A1 := Lib.hid (fun W g => attrs_Read.calls s (t : Int) la sf (m : Int) true W hA g)
  clear hA
  have z1 : decide ((n : Int) > 1) = true := decide_eq_true (by omega)
  have z2 : decide (1 < n) = true := decide_eq_true (by omega)
  have hnl : ((lb s).drop f).take (t - f) = ((lb s).drop f).take (wdU [47, 62] ((lb s).drop f)) := by rw [show t - f = wdU [47, 62] ((lb s).drop f) by omega]
  have ex : s.extract f t = bs (((lb s).drop f).take (wdU [47, 62] ((lb s).drop f))) := lb_inj (by rw [lb_extract, lb_bs, hnl])
  obtain ⟨x, hx⟩ : ∃ x, ((lb s).drop f).take (wdU [47, 62] ((lb s).drop f)) = x := ⟨_, rfl⟩
  have hxl : x.length ≤ 100000000 := by rw [← hx, List.length_take]; omega
  rw [hx] at ex
  rw [hx]
  have L1 := Lib.hid (fun W => sign_Lower.calls (bs x) (bs (low x)) W (by rw [sign_Lower.f, if_pos (by rw [size_bs]; omega), lowS, lb_bs]))
  have C1 := Lib.hid (fun W g => lines_Clean.calls (bs (low x)) (bs (cleanL (low x))) W (by rw [lines_Clean.f, if_pos (by rw [size_bs, low_length]; omega), lb_bs]) g)
  have hsl1 : ∀ U : World, (Instr.slice 9 (.string s) (some (.int .i64 ((p : Int) + (n : Int)))) (some (.int .i64 (t : Int))) none).run Tryz.prog U = .ok (.string (bs x)) U := fun U => by
    have := run_slice_string (P := Tryz.prog) U 9 s .i64 .i64 ((p : Int) + (n : Int)) (t : Int) Tryz.underlying9 (by omega) (by omega) (by omega)
    rw [show ((p : Int) + (n : Int)).toNat = f by omega, Int.toNat_natCast, ex] at this; exact this
  clear hnl ex hx hxl hm hk
  clear hG hs hsz hw hfs ht hn hN hf
  go_enter Tryz.func17, Tryz.ntmps17
  go_wp2_with fail
  refine (N1.out _).mono ?_
  rintro e wq ⟨rfl, hb⟩
  have hA := TkA.below (by exact HA.out) hb
  clear HA hb
  have HA := Aside0.mk hA
  have c0 := hA.c0
  have c1 := hA.c1
  have c2 := hA.c2
  have c3 := hA.c3
  have c4 := hA.c4
  have f0 := hA.f0 0
  have f1 := hA.f0 1
  have f2 := hA.f0 2
  have f3 := hA.f0 3
  have f4 := hA.f0 4
  clear hA
  go_upto_block 0 with (fail)
  go_cut [10] (fun v10 wc => v10 = .int .i64 (t : Int) ∧ Aside0 (TkA w wc))
  case first =>
    go_wp2
    go_loopg [10] (t - f) (fun gg v10 w' => ∃ q : Nat, v10 = .int .i64 (q : Int) ∧ Hid (f ≤ q ∧ q + gg = t ∧ q + wdU [47, 62] ((lb s).drop q) = t) ∧ Aside0 (TkA w w'))
    case atStart => exact ⟨f, by rw [← HF.out], HQ0, ⟨by exact HA.out⟩⟩
    case round =>
      clear HA c0 c1 c2 c3 c4 f0 f1 f2 f3 f4
      obtain ⟨q, rfl, hq, HA⟩ := hrel
      have hq1 := hq.out
      have hT := HT.out
      have hS := HS.out
      have hsz := length_lb s
      have b5 : (0 : Int) ≤ (q : Int) := by omega
      have b6 : (q : Int) ≤ 1099511627776 := by omega
      by_cases e1 : q = s.size
      · have HQE := Lib.hid (show q = t by omega)
        have d1 : decide ((q : Int) < (s.size : Int)) = false := decide_eq_false (by omega)
        have d2 : decide (q < s.size) = false := decide_eq_false (by omega)
        clear hq hq1 hT hS hsz e1
        go_wp2
        go_meet
        case rel => (exact ⟨by rw [HQE.out], ⟨by exact HA.out⟩⟩)
      have hlt : q < s.size := by omega
      have hlt2 : q < (lb s).length := by omega
      have d1 : decide ((q : Int) < (s.size : Int)) = true := decide_eq_true (by omega)
      have p5 : 0 ≤ (q : Int) := b5
      have q5 : (q : Int) < (s.size : Int) := by omega
      have hx5 : ∀ h : q < s.size, ((s[q]'h).toNat : Int) = bt s (q : Int) := fun h => bt_at s ((q : Nat) : Int) h
      have hb5 : bt s (q : Int) = (((lb s)[q].toNat : Nat) : Int) := by rw [bt_lb, Int.toNat_natCast]; simp [at_, List.getD, hlt2]
      have hd := List.drop_eq_getElem_cons hlt2
      rw [hd, wdU] at hq1
      have hsp : sign_Space_o.f (bt s (q : Int)) = some (spaceB (lb s)[q]) := by rw [sign_Space_o.f, hb5]; rfl
      replace p5 := eq_true p5
      replace q5 := eq_true q5
      cases e2 : spaceB (lb s)[q] with
      | true =>
        rw [if_pos e2] at hq1
        have HQE := Lib.hid (show q = t by omega)
        have SP1 := Lib.hid (fun W => sign_Space_o.calls (bt s (q : Int)) true W (by rw [hsp, e2]))
        clear hq hq1 hT hS hsz e1 e2 hlt hlt2 hb5 hd hsp
        go_wp2_with fail
        refine (SP1.out _).mono ?_
        rintro e wq ⟨rfl, ⟨nd, rfl⟩⟩
        go_wp2
        go_meet
        case rel => (exact ⟨by rw [HQE.out], ⟨by repeat (first | (with_reducible exact HA.out) | (with_reducible apply TkA.drewN))⟩⟩)
      | false =>
        rw [if_neg (by rw [e2]; decide)] at hq1
        have SP1 := Lib.hid (fun W => sign_Space_o.calls (bt s (q : Int)) false W (by rw [hsp, e2]))
        by_cases e3 : (lb s)[q] = 47
        · rw [if_pos (by rw [e3]; decide)] at hq1
          have HQE := Lib.hid (show q = t by omega)
          have d3 : (bt s (q : Int) != 47) = false := by rw [hb5, e3]; rfl
          clear hq hq1 hT hS hsz e1 e2 e3 hlt hlt2 hb5 hd hsp
          go_wp2_with fail
          refine (SP1.out _).mono ?_
          rintro e wq ⟨rfl, ⟨nd, rfl⟩⟩
          go_wp2
          go_meet
          case rel => (exact ⟨by rw [HQE.out], ⟨by repeat (first | (with_reducible exact HA.out) | (with_reducible apply TkA.drewN))⟩⟩)
        have d3 : (bt s (q : Int) != 47) = true := by rw [hb5]; exact bne_iff_ne.2 (fun e => e3 (u8_nat.1 (by show _ = 47; omega)))
        by_cases e4 : (lb s)[q] = 62
        · rw [if_pos (by rw [e4]; decide)] at hq1
          have HQE := Lib.hid (show q = t by omega)
          have d4 : (bt s (q : Int) != 62) = false := by rw [hb5, e4]; rfl
          clear hq hq1 hT hS hsz e1 e2 e3 e4 hlt hlt2 hb5 hd hsp
          go_wp2_with fail
          refine (SP1.out _).mono ?_
          rintro e wq ⟨rfl, ⟨nd, rfl⟩⟩
          go_wp2
          go_meet
          case rel => (exact ⟨by rw [HQE.out], ⟨by repeat (first | (with_reducible exact HA.out) | (with_reducible apply TkA.drewN))⟩⟩)
        have d4 : (bt s (q : Int) != 62) = true := by rw [hb5]; exact bne_iff_ne.2 (fun e => e4 (u8_nat.1 (by show _ = 62; omega)))
        rw [if_neg (by simp only [List.mem_cons, List.not_mem_nil, or_false, not_or]; exact ⟨e3, e4⟩)] at hq1
        have HK := Lib.hid (show gk = (t - (q + 1)) + 1 by omega)
        have HQ1 := Lib.hid (show f ≤ q + 1 ∧ q + 1 + (t - (q + 1)) = t ∧ q + 1 + wdU [47, 62] ((lb s).drop (q + 1)) = t from ⟨by omega, by omega, by omega⟩)
        clear hq hq1 hT hS hsz e1 e2 e3 e4 hlt hlt2 hb5 hd hsp
        go_wp2_with fail
        refine (SP1.out _).mono ?_
        rintro e wq ⟨rfl, ⟨nd, rfl⟩⟩
        go_wp2
        go_roundg (t - (q + 1))
        case measure => have := HK.out; omega
        case rel => (exact ⟨q + 1, rfl, HQ1, ⟨by repeat (first | (with_reducible exact HA.out) | (with_reducible apply TkA.drewN))⟩⟩)
  case rest =>
    try clear HA c0 c1 c2 c3 c4 f0 f1 f2 f3 f4
    obtain ⟨rfl, HA⟩ := hcut
    go_wp2_with fail
    refine (A1.out _ (HG.out.below (TkA.low (by exact HA.out)))).mono ?_
    rintro e wq ⟨v0, rfl, ho, hb⟩
    have hsize := below_size (TkA.low (show TkA w _ from by exact HA.out))
    obtain ⟨Ao, co, eo⟩ := Kd.R_slice ho
    subst eo
    have HO := Aside0.mk (Kd.R_lower ho hsize)
    have hA := TkA.below (by exact HA.out) hb
    clear HA hb
    have HA := Aside0.mk hA
    have c0 := hA.c0
    have c1 := hA.c1
    have c2 := hA.c2
    have c3 := hA.c3
    have c4 := hA.c4
    have f0 := hA.f0 0
    have f1 := hA.f0 1
    have f2 := hA.f0 2
    have f3 := hA.f0 3
    have f4 := hA.f0 4
    clear hA
    clear ho hsize
    go_wp2_with fail
    refine (L1.out _).mono ?_
    rintro e wq ⟨rfl, hb⟩
    have hO := Kd.R_below (by exact HO.out) hb
    have hA := TkA.below (by exact HA.out) hb
    clear HA hb c0 c1 c2 c3 c4 f0 f1 f2 f3 f4
    have HA := Aside0.mk hA
    have c0 := hA.c0
    have c1 := hA.c1
    have c2 := hA.c2
    have c3 := hA.c3
    have c4 := hA.c4
    have f0 := hA.f0 0
    have f1 := hA.f0 1
    have f2 := hA.f0 2
    have f3 := hA.f0 3
    have f4 := hA.f0 4
    clear hA
    clear HO
    have HO := Aside0.mk hO
    clear hO
    go_wp2_with fail
    refine (C1.out _ (HG.out.below (TkA.low (by exact HA.out)))).mono ?_
    rintro e wq ⟨rfl, hb⟩
    have hO := Kd.R_below (by exact HO.out) hb
    have hA := TkA.below (by exact HA.out) hb
    clear HA hb c0 c1 c2 c3 c4 f0 f1 f2 f3 f4
    have HA := Aside0.mk hA
    have c0 := hA.c0
    have c1 := hA.c1
    have c2 := hA.c2
    have c3 := hA.c3
    have c4 := hA.c4
    have f0 := hA.f0 0
    have f1 := hA.f0 1
    have f2 := hA.f0 2
    have f3 := hA.f0 3
    have f4 := hA.f0 4
    clear hA
    clear HO
    have HO := Aside0.mk hO
    clear hO
    go_wp2
    refine bodyPost_ret (results_ctt rfl _ _ w.heap.size 28 #[.int .i64 2, .string (bs (cleanL (low x))), .string ⟨#[]⟩, .slice none 0 0, .bool false] (0, 0) _ rfl (TkA.put (by exact HA.out) (.int .i64 2) (.string (bs (cleanL (low x)))) (.string ⟨#[]⟩) (.slice none 0 0) (.bool false)) Tryz.underlying28 rfl (by kernel_rfl)) rfl ?_
    exact ⟨_, rfl, Kd.R_nil _ _ _ _ _, TkA.putB (by exact HA.out) _ _ _ _ _⟩
theorem tagN_le (l : List UInt8) (p : Int) (h : tagN l p ≠ 0) : ∃ q n : Nat, p = (q : Int) ∧ tagN l p = (n : Int) ∧ 1 ≤ n ∧ n ≤ 2 ∧ q + n < l.length := by
  unfold tagN at h ⊢
  split at h
  · rename_i hb
    rw [if_pos hb]
    obtain ⟨q, rfl⟩ := Int.eq_ofNat_of_zero_le hb.1
    rw [Int.toNat_natCast] at h ⊢
    have := tagK_le (l.drop q)
    rw [List.length_drop] at this
    have h0 : tagK (l.drop q) ≠ 0 := fun e => h (by rw [e]; rfl)
    rw [if_neg h0] at this
    exact ⟨q, _, rfl, rfl, by omega, this.1, by omega⟩
  · exact absurd rfl h
theorem finA_len (p : Nat) (u : List UInt8) : (finA [] p u).2.2.1 = ((p + (sc u).2.2.1 : Nat) : Int) := rfl
theorem tag_Read.calls (a0 : ByteArray) (a1 : Int) (r1 : Int) (r2 r3 : ByteArray) (r4 : List S45) (r5 : Bool) (r6 : Int) (r7 : Bool) (w : World) (h : tag_Read.f a0 a1 = some (r1, r2, r3, r4, r5, r6, r7)) (hG : GW w) :
    Calls Tryz.prog 17 #[.string a0, .int .i64 a1] w fun e w' => ∃ v3_ : Value, e = .returned (.tuple #[.agg #[.int .i64 r1, .string r2, .string r3, v3_, .bool r5], .int .i64 r6, .bool r7]) ∧ Kd.R k45 45 w' w.heap.size (fun _ => True) v3_ r4 ∧ Below w.heap.size w w' := by
  unfold tag_Read.f at h
  split at h
  · rename_i hb
    have h2 := Option.some.inj h
    have hsz := length_lb a0
    have hN : tag_place_name.f a0 a1 = some (tagN (lb a0) a1) := by rw [tag_place_name.f, if_pos (by omega)]
    by_cases c : tagN (lb a0) a1 = 0
    · rw [if_pos c] at h2
      simp only [Prod.mk.injEq] at h2
      obtain ⟨rfl, rfl, rfl, rfl, rfl, rfl, rfl⟩ := h2
      exact tag_Read.none_ a0 a1 w (by rw [hN, c])
    · rw [if_neg c] at h2
      obtain ⟨p, n, rfl, e, h1, h3, h4⟩ := tagN_le _ _ c
      rw [e, Int.toNat_natCast, Int.toNat_natCast] at h2
      rw [e] at hN
      have hw := wdU_le [47, 62] ((lb a0).drop (p + n))
      rw [List.length_drop] at hw
      have hr : attrs_Read.f a0 ((p + n + wdU [47, 62] ((lb a0).drop (p + n)) : Nat) : Int) = some (finA [] (p + n + wdU [47, 62] ((lb a0).drop (p + n))) ((lb a0).drop (p + n + wdU [47, 62] ((lb a0).drop (p + n))))) := by
        rw [attrs_Read.f, if_pos ⟨hb.1, by omega, by omega⟩, if_neg (by omega), Int.toNat_natCast]
      have hle := sc_le ((lb a0).drop (p + n + wdU [47, 62] ((lb a0).drop (p + n))))
      rw [List.length_drop] at hle
      have hfl := finA_len (p + n + wdU [47, 62] ((lb a0).drop (p + n))) ((lb a0).drop (p + n + wdU [47, 62] ((lb a0).drop (p + n))))
      unfold tagF at h2
      generalize finA [] (p + n + wdU [47, 62] ((lb a0).drop (p + n))) ((lb a0).drop (p + n + wdU [47, 62] ((lb a0).drop (p + n)))) = F at *
      obtain ⟨la, sf, m', ok⟩ := F
      dsimp only at h2 hfl
      subst hfl
      cases ok with
      | false =>
        rw [if_neg (by decide)] at h2
        simp only [Prod.mk.injEq] at h2
        obtain ⟨rfl, rfl, rfl, rfl, rfl, rfl, rfl⟩ := h2
        rw [hsz]
        exact tag_Read.open_ a0 p n _ _ w hG hb.1 rfl (by omega) rfl ⟨h1, h3⟩ hN la sf _ hr
      | true =>
        rw [if_pos rfl] at h2
        by_cases c1 : n = 1
        · rw [if_pos c1] at h2
          simp only [Prod.mk.injEq] at h2
          obtain ⟨rfl, rfl, rfl, rfl, rfl, rfl, rfl⟩ := h2
          exact tag_Read.start_ a0 p n _ _ w hG hb.1 rfl (by omega) rfl ⟨h1, h3⟩ hN la sf _ (by omega) c1 hr
        · rw [if_neg c1] at h2
          simp only [Prod.mk.injEq] at h2
          obtain ⟨rfl, rfl, rfl, rfl, rfl, rfl, rfl⟩ := h2
          exact tag_Read.stop_ a0 p n _ _ w hG hb.1 rfl (by omega) rfl ⟨h1, h3⟩ hN la sf _ (by omega) (by omega) hr
  · cases h

end
end Go.Proofs.YtnohggejjlelhaaGreatDoor.P
