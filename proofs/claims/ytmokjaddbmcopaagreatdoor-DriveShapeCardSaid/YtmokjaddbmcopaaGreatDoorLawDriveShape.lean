/- Proved: whatever its arguments, the call of the law DriveShape returns true, and each argument reads behind the call as it read before. No conditions but the given row's own. -/
import Derived.Test.YtmokjaddbmcopaaGreatDoorRows
import Derived.Test.YtmokjaddbmcopaaGreatDoorTie
import Derived.Test.YtmokjaddbmcopaaGreatDoorCards
import Derived.Test.YtmokjaddbmcopaaGreatDoorRX
import Derived.SevenTiedAt
import Derived.Test.YtmokjaddbmcopaaGreatDoorPx34
import Derived.WalkKit
import Derived.ProofKit
import Derived.OpenShut
import Derived.ShutString
import Derived.ChangeOld
import Derived.Below
import Derived.SizedLaws
section
-- pruned2
/- Proved: what the printed function of the law DriveShape answers is true, for all arguments within the row's own bounds: over numbers and lists alone. No further conditions. -/
namespace Go.Proofs.YtmokjaddbmcopaaGreatDoor.Pure
open Go.RowKit Go.Proofs.YtmokjaddbmcopaaGreatDoor.P Go.Proofs.YtmokjaddbmcopaaGreatDoor.G Go.Proofs.YtmokjaddbmcopaaGreatDoorW.PrintWords Go.Proofs.YtmokjaddbmcopaaGreatDoorW.PrintLast Go.Proofs.YtmokjaddbmcopaaGreatDoorW.PrintMore
set_option linter.unusedVariables false
set_option linter.unusedSimpArgs false
theorem bt_of (s : ByteArray) (i : Nat) (c : UInt8) (h : (lb s)[i]? = some c) : bt s (i : Int) = (c.toNat : Int) := by
  rw [bt_lb, Int.toNat_natCast]; simp [at_, List.getD, h]
theorem take_not {c d : UInt8} {l : List UInt8} {i : Nat} (h : c ∉ l.take i) (hi : l[i]? = some d) (hd : d ≠ c) : c ∉ l.take (i + 1) := by
  rw [List.take_add_one, hi]
  intro hm
  rcases List.mem_append.1 hm with h1 | h1
  · exact h h1
  · exact hd (List.mem_singleton.1 (show c ∈ [d] from h1)).symm
theorem len_size (s : ByteArray) (i : Nat) (h : i < s.size) : ∃ d, (lb s)[i]? = some d := ⟨_, List.getElem?_eq_getElem (by rw [length_lb]; exact h)⟩
theorem awake16 : flaillaw16_awake_o.f = some true := rfl
theorem drv_is (s : ByteArray) (hs : s.size ≤ 10000) : drive_Drive_o.f s = some ((driveL (lb s)).map mkT) := by rw [drive_Drive_o.f, if_pos hs]
theorem all_drv (u : List UInt8) (hu : u.length ≤ 10000) (w : List S25) (h : w = (driveL u).map mkT) : flailref09_All_o.f ((driveL u).map mkT) w = some true :=
  all_self _ w (by have := drive_len u; omega) (fun t ht => by have := drive_att u t ht; omega) h
theorem state_is (b : List UInt8) (h : b.length ≤ 100000) : drive_State.f (bs b) = some (stateL b) := by rw [drive_State.f, if_pos (by rw [size_bs]; exact h), lb_bs]
theorem rd_mk (L : List TK) (i : Nat) (h : i < L.length) : rd_T25 (L.map mkT) (i : Int) = mkT L[i] := by
  rw [rd_TT (L.map mkT) i (by rw [List.length_map]; exact h), List.getElem_map]
theorem shape_l0 (N : Nat) (hN : N ≤ 300) (L : List TK) (hlen : L.length ≤ 3 * N) (hnm : ∀ t ∈ L, t.2.1.length ≤ 3 * N) (hsh : shp L) : ∀ (n i : Nat), i + n = L.length → ∃ k, flaillaw16_DriveShape.l0 k true (L.map mkT) (i : Int) = some true
  | 0, i, h => ⟨1, by rw [flaillaw16_DriveShape.l0, List.length_map, if_neg (by omega)]⟩
  | n + 1, i, h => by
    have hi : i < L.length := by omega
    obtain ⟨k, hk⟩ := shape_l0 N hN L hlen hnm hsh n (i + 1) (by omega)
    have hw : wrap64 ((i : Int) + 1) = ((i + 1 : Nat) : Int) := by rw [w64 (by omega) (by omega)]; omega
    have hw2 : wrap64 (((i + 1 : Nat) : Int) + 1) = ((i + 2 : Nat) : Int) := by rw [w64 (by omega) (by omega)]; omega
    have hll : ((L.map mkT).length : Int) = (L.length : Int) := by rw [List.length_map]
    have rd := rd_mk L i hi
    have i0 : (0 : Int) ≤ (i : Int) := by omega
    have i1 : (i : Int) < (L.length : Int) := by omega
    have e0 : ∀ t : TK, (mkT t).f0 = t.1 := fun _ => rfl
    have hsd := shp_drop L i hsh
    rw [List.drop_eq_getElem_cons hi] at hsd
    obtain ⟨s1, s2, _⟩ := hsd
    have hs1 : drive_State.f (mkT L[i]).f1 = some (stateL L[i].2.1) := state_is _ (by have := hnm _ (List.getElem_mem hi); omega)
    have hj5 : ∀ q : Nat, (∀ hq : q < L.length, L[q].1 = 2 ∧ L[q].2.1 = L[i].2.1) → flaillaw16_DriveShape.j5 (k + 1) true (L.map mkT) (i : Int) (q : Int) = some true := by
      intro q hq
      rw [flaillaw16_DriveShape.j5, hll]
      by_cases c : q < L.length
      · obtain ⟨q1, q2⟩ := hq c
        have rq := rd_mk L q c
        have hn : (mkT L[q]).f1.toList = (mkT L[i]).f1.toList := by show (bs L[q].2.1).toList = (bs L[i].2.1).toList; rw [q2]
        rw [if_pos (by omega), if_pos (by omega), rq, e0, if_pos q1, if_pos i0, if_pos i1, rd, if_pos hn, hw, hk]
      · rw [if_neg (by omega), hw, hk]
    have hj4t : flaillaw16_DriveShape.j4 (k + 1) true (L.map mkT) (i : Int) true = some true := by rw [flaillaw16_DriveShape.j4, if_pos rfl, hw, hk]
    have hj4 : L[i].1 = 1 → stateL L[i].2.1 ≠ 0 → flaillaw16_DriveShape.j4 (k + 1 + 1) true (L.map mkT) (i : Int) false = some true := by
      intro t1 t2
      have he := s2 t1 t2
      rw [flaillaw16_DriveShape.j4, if_neg (by decide), hw, hll]
      by_cases c : i + 1 < L.length
      · have r1 := rd_mk L (i + 1) c
        rw [List.drop_eq_getElem_cons c] at he
        have he2 : if L[i + 1].1 = 0 then (match L.drop (i + 1 + 1) with | [] => True | y :: _ => y.1 = 2 ∧ y.2.1 = L[i].2.1) else L[i + 1].1 = 2 ∧ L[i + 1].2.1 = L[i].2.1 := he
        rw [if_pos (by omega), if_pos (by omega), r1, e0]
        by_cases d : L[i + 1].1 = 0
        · rw [if_pos d] at he2
          rw [if_pos d, hw2]
          refine hj5 (i + 2) (fun hq => ?_)
          rw [List.drop_eq_getElem_cons hq] at he2
          exact he2
        · rw [if_neg d] at he2
          rw [if_neg d]
          exact hj5 (i + 1) (fun _ => he2)
      · rw [if_neg (by omega)]
        exact hj5 (i + 1) (fun hq => absurd hq c)
    have hj3 : ∃ m, flaillaw16_DriveShape.j3 m true (L.map mkT) (i : Int) = some true := by
      by_cases t1 : L[i].1 = 1
      · by_cases t2 : stateL L[i].2.1 = 0
        · exact ⟨k + 1 + 1, by rw [flaillaw16_DriveShape.j3, hll, if_pos i0, if_pos i1, rd, e0, if_pos t1, hs1, Option.bind_some, t2, beq_self_eq_true, hj4t]⟩
        · exact ⟨k + 1 + 1 + 1, by rw [flaillaw16_DriveShape.j3, hll, if_pos i0, if_pos i1, rd, e0, if_pos t1, hs1, Option.bind_some, beq_false_of_ne t2, hj4 t1 t2]⟩
      · exact ⟨k + 1 + 1, by rw [flaillaw16_DriveShape.j3, hll, if_pos i0, if_pos i1, rd, e0, if_neg t1, hj4t]⟩
    obtain ⟨m, hm⟩ := hj3
    refine ⟨m + 1 + 1 + 1, ?_⟩
    rw [flaillaw16_DriveShape.l0, hll, if_pos i1, if_pos i0, rd, e0]
    by_cases t0 : L[i].1 = 0
    · obtain ⟨n1, n2⟩ := s1 t0
      have hx : ((mkT L[i]).f2.toList == ([] : List UInt8)) = false := beq_eq_false_iff_ne.2 (fun z => n1 (by rw [show (mkT L[i]).f2 = bs L[i].2.2.1 from rfl, toList_lb, lb_bs] at z; exact z))
      rw [if_pos t0, hx, show (L[i].1 == 0) = true from beq_iff_eq.2 t0, flaillaw16_DriveShape.j1, if_neg (by decide), if_pos rfl, hw, hll, flaillaw16_DriveShape.j2, hw, hll]
      by_cases c : i + 1 < L.length
      · have r1 := rd_mk L (i + 1) c
        rw [List.drop_eq_getElem_cons c] at n2
        have n3 : ¬ L[i + 1].1 = 0 := n2
        rw [if_pos (decide_eq_true (by omega)), if_pos (by omega), if_pos (by omega), r1, e0, if_neg n3, hm]
      · rw [if_neg (by rw [decide_eq_true_eq]; omega), hm]
    · rw [if_neg t0, show (L[i].1 == 0) = false from beq_false_of_ne t0, flaillaw16_DriveShape.j1, if_neg (by decide), if_neg (by decide), flaillaw16_DriveShape.j2, if_neg (by decide), hm]
theorem DriveShape : flaillaw16_DriveShape.Pure := by
  intro s h0
  have hl := length_lb s
  by_cases c1 : (s.size : Int) > 300
  · exact ⟨1, by rw [flaillaw16_DriveShape.f, awake16, Option.bind_some, if_pos c1]⟩
  obtain ⟨k, hk⟩ := shape_l0 s.size (by omega) (driveL (lb s)) (by have := drive_len (lb s); omega) (fun t ht => by have := drive_name (lb s) t ht; omega) (drive_shape (lb s)) _ 0 (Nat.zero_add _)
  refine ⟨k, ?_⟩
  rw [flaillaw16_DriveShape.f, awake16, Option.bind_some, if_neg c1, drv_is s (by omega), Option.bind_some]
  exact hk
end Go.Proofs.YtmokjaddbmcopaaGreatDoor.Pure
end
namespace Go.Proofs.YtmokjaddbmcopaaGreatDoor.driveShape
open Go.ChangeShapes Go.WideShapes Go.ChangeAt Go.RowKit
open Go.ChangeMaps (open_string shut_string)
set_option linter.unusedVariables false
theorem own : ownKnob Tryz.prog.godebug = none := by kernel_rfl
set_option maxRecDepth 100000 in
theorem lifted (os : Os) (started : os.Started) (H : Type) (enc : TypeId × Value → H) :
    ReturnsInHanded {} Tryz.checked os 4 .any (fun w args => (Rows.driveShapeSpec.pre enc Tryz.prog Tryz.f4 Rows.driveShapeRow.domain false w args ∧ laidMetH Tryz.prog G.laidL w) ∧ sizedMet enc Tryz.prog Tryz.f4 (OpenSpec.ofChange Rows.driveShapeSpec) false w args) (Rows.driveShapeSpec.post enc Tryz.prog Tryz.f4 false true false false) := by
  refine G.returns_laid (C := Tryz.checked) (X := fun w _ => laidMetH Tryz.prog G.laidL w) (fun _ _ _ hh h => h.of_heap hh) own started (by kernel_rfl) Tryz.func4
    (ChangeSpec.witness_shaped (enc := enc) (C := Tryz.checked) (os := os) (X := fun w _ => laidMetH Tryz.prog G.laidL w) false (World.laidAll Tryz.prog os G.laidL) #[.string ByteArray.empty] 8 (World.laidAll_os _ _ _) (G.door_shaped os _) (by kernel_rfl) (by kernel_rfl) (by kernel_rfl) (G.door_met os _)) ?_
  intro W base args ds gs before hval0 hW hcnd hsz0 hL hSh _
  have hsz : (DataW.weightsEach Tryz.prog (Tryz.f4.params.toList ++ Rows.driveShapeSpec.plain.varTypes Tryz.prog) (ds ++ gs)).all (· ≤ reachBytes) = true := hsz0
  have hval : ∀ (j : Nat) t v, Tryz.f4.params[j]? = some t → args[j]? = some v → Value.okWide Tryz.prog W .any base t v := hval0
  have hW' := hW
  obtain ⟨p, q, hA0, hV, rfl, hfz, hnd⟩ := hW
  have hA : DataW.TrodAll enc Tryz.prog W 0 (fun _ => true) true Tryz.f4.params.toList args.toList ds p := hA0
  rw [Tryz.params4] at hA hval hsz
  obtain ⟨v0, vs0, d0, ds0, p0, q0, hargs, rfl, rfl, h0, r0⟩ := trodAll_cons hA
  obtain ⟨rfl, rfl, rfl⟩ := trodAll_nil r0
  obtain rfl : args = #[v0] := by cases args; simp_all
  obtain ⟨rfl, rfl⟩ := trodVars_none hV
  obtain ⟨a0, rfl, rfl, rfl, y0⟩ := open_string Tryz.underlying9 (hval 0 9 v0 rfl rfl) h0
  have w0 : a0.size ≤ 140737488351232 := by
    have z := sized_string hsz (j := 0) (t := 9) rfl rfl
    rw [Array.length_toList] at z
    exact z
  clear hA0 hval0 hsz0 hsz
  refine (P.flaillaw16_DriveShape.walk Pure.DriveShape a0 W w0 (G.gw_of_laid hL hSh)).mono fun e W' ⟨he, bel⟩ => ?_
  subst he
  exact ⟨_, rfl, _, _, _, [], _, [], hW', trodAll_mk1 (shut_bool Tryz.underlying4 _), (trodAll_cons_mk (shut_string Tryz.underlying9 y0) trodAll_mk0), rfl, bel.frame _, fun h => by cases h⟩
theorem over : Rows.driveShapeRow.holds Tryz.pinned (OpenSpec.ofChange Rows.driveShapeSpec) :=
  OpenClaim.holds_of_wide 4 Tryz.f4 rfl rfl rfl rfl rfl rfl rfl ⟨rfl, rfl, rfl, rfl, rfl⟩ rfl rfl rfl rfl rfl (by kernel_rfl) Tryz.func4 (by kernel_rfl)
    (of_decide_eq_true (by kernel_rfl)) (by unfold Func.isWrapper; first | (rw [if_pos (by decide +kernel)]; kernel_rfl) | (rw [if_neg (by decide +kernel)]; exact ⟨rfl, rfl⟩))
    (fun os started H enc _ => lifted os started H enc)
theorem tied : Rows.DriveShapeCardSaid :=
  Claim7.holds_tied_plain_at .later [] [.data, .data, .data, .data, .sentinel, .sentinel, .pinned] true (true, "6f41d958818cb672053107f8a3f0d0361b09ef8d81cd218887fe320d58960188") true
    over (fun _ h => by cases h) (by kernel_rfl) (fun _ h => by cases h) driveShape_row_tie rfl ⟨rfl, rfl⟩ (by kernel_rfl) rfl
    (fun f fn hf hfn => by
      obtain rfl : f = 4 := Option.some.inj ((show Tryz.prog.funcNamed "flail/flaillaw16.DriveShape" = some 4 by kernel_rfl).symm.trans hf) |>.symm
      obtain rfl : fn = Tryz.f4 := (Option.some.inj (Tryz.func4.symm.trans hfn)).symm
      exact ⟨by kernel_rfl, fun j t ht => by
        rw [Tryz.params4] at ht
        have hall : (Tryz.f4.params.toList.all fun u => !Tryz.prog.wantsStandIn u) = true := by kernel_rfl
        rw [Tryz.params4] at hall
        have hm := Array.mem_of_getElem? ht
        exact (show Tryz.prog.wantsStandIn t = false by simpa using List.all_eq_true.1 hall t (by simpa using hm))⟩)
    (by kernel_rfl)
#print axioms tied
end Go.Proofs.YtmokjaddbmcopaaGreatDoor.driveShape
namespace Go.Proofs.YtmokjaddbmcopaaGreatDoor
/-- The card, under a short name, for the claim. -/
theorem driveShape_holds : Rows.DriveShapeCardSaid := driveShape.tied
end Go.Proofs.YtmokjaddbmcopaaGreatDoor
