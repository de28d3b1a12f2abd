/- Proved: whatever its arguments, the call of the law DriveStates returns true, and each argument reads behind the call as it read before. No conditions but the given row's own. -/
import Derived.Test.YtmokjaddbmcopaaGreatDoorRows
import Derived.Test.YtmokjaddbmcopaaGreatDoorTie
import Derived.Test.YtmokjaddbmcopaaGreatDoorCards
import Derived.Test.YtmokjaddbmcopaaGreatDoorRX
import Derived.SevenTiedAt
import Derived.Test.YtmokjaddbmcopaaGreatDoorPx35
import Derived.WalkKit
import Derived.ProofKit
import Derived.OpenShut
import Derived.ShutString
import Derived.ChangeOld
import Derived.Below
import Derived.SizedLaws
section
-- pruned2
/- Proved: what the printed function of the law DriveStates answers is true, for all arguments within the row's own bounds: over numbers and lists alone. No further conditions. -/
namespace Go.Proofs.YtmokjaddbmcopaaGreatDoor.Pure
open Go.RowKit Go.Proofs.YtmokjaddbmcopaaGreatDoor.P Go.Proofs.YtmokjaddbmcopaaGreatDoor.G Go.Proofs.YtmokjaddbmcopaaGreatDoorW.PrintWords Go.Proofs.YtmokjaddbmcopaaGreatDoorW.PrintLast Go.Proofs.YtmokjaddbmcopaaGreatDoorW.PrintMore
set_option linter.unusedVariables false
set_option linter.unusedSimpArgs false
theorem bt_of (s : ByteArray) (i : Nat) (c : UInt8) (h : (lb s)[i]? = some c) : bt s (i : Int) = (c.toNat : Int) := by
  rw [bt_lb, Int.toNat_natCast]; simp [at_, List.getD, h]
theorem take_not {c d : UInt8} {l : List UInt8} {i : Nat} (h : c ∉ l.take i) (hi : l[i]? = some d) (hd : d ≠ c) : c ∉ l.take (i + 1) := by
  rw [List.take_add_one, hi]
  intro hm
  rcases List.mem_append.1 hm with h1 | h1
  · exact h h1
  · exact hd (List.mem_singleton.1 (show c ∈ [d] from h1)).symm
theorem len_size (s : ByteArray) (i : Nat) (h : i < s.size) : ∃ d, (lb s)[i]? = some d := ⟨_, List.getElem?_eq_getElem (by rw [length_lb]; exact h)⟩
theorem awake16 : flaillaw16_awake_o.f = some true := rfl
theorem drv_is (s : ByteArray) (hs : s.size ≤ 10000) : drive_Drive_o.f s = some ((driveL (lb s)).map mkT) := by rw [drive_Drive_o.f, if_pos hs]
theorem all_drv (u : List UInt8) (hu : u.length ≤ 10000) (w : List S25) (h : w = (driveL u).map mkT) : flailref09_All_o.f ((driveL u).map mkT) w = some true :=
  all_self _ w (by have := drive_len u; omega) (fun t ht => by have := drive_att u t ht; omega) h
theorem state_is (b : List UInt8) (h : b.length ≤ 100000) : drive_State.f (bs b) = some (stateL b) := by rw [drive_State.f, if_pos (by rw [size_bs]; exact h), lb_bs]
theorem rd_mk (L : List TK) (i : Nat) (h : i < L.length) : rd_T25 (L.map mkT) (i : Int) = mkT L[i] := by
  rw [rd_TT (L.map mkT) i (by rw [List.length_map]; exact h), List.getElem_map]
def litD : List ByteArray := [(⟨#[116, 105, 116, 108, 101]⟩ : ByteArray), (⟨#[116, 101, 120, 116, 97, 114, 101, 97]⟩ : ByteArray), (⟨#[115, 116, 121, 108, 101]⟩ : ByteArray), (⟨#[120, 109, 112]⟩ : ByteArray), (⟨#[105, 102, 114, 97, 109, 101]⟩ : ByteArray), (⟨#[110, 111, 101, 109, 98, 101, 100]⟩ : ByteArray), (⟨#[110, 111, 102, 114, 97, 109, 101, 115]⟩ : ByteArray), (⟨#[110, 111, 115, 99, 114, 105, 112, 116]⟩ : ByteArray), (⟨#[115, 99, 114, 105, 112, 116]⟩ : ByteArray), (⟨#[112, 108, 97, 105, 110, 116, 101, 120, 116]⟩ : ByteArray)]
theorem litD_at : ∀ i : Nat, i < 10 → lb (rdOf ByteArray.empty litD (i : Int)) = tenL.getD i [] ∧ tenL.getD i [] ∈ tenL ∧ (tenL.getD i []).length ≤ 9 := by decide +kernel
theorem ten_take (l : List UInt8) (i : Nat) (h : i < 10) : (l ∈ tenL.take (i + 1)) ↔ (l ∈ tenL.take i ∨ l = tenL.getD i []) := by
  have hl : i < tenL.length := h
  rw [List.take_add_one, List.getElem?_eq_getElem hl, Option.toList_some, List.mem_append, List.mem_singleton]
  rw [show tenL.getD i [] = tenL[i] by simp [List.getD, hl]]
theorem states_l0 (s : ByteArray) (hs : s.size ≤ 60) : ∀ (n i : Nat), i + n = 10 → ∃ k, flaillaw16_DriveStates.l0 k s true litD (decide (lb s ∈ tenL.take i)) (i : Int) = some true
  | 0, i, h => by
    obtain rfl : i = 10 := by omega
    have hst := stateL_le (lb s)
    have hin := stateL_in (lb s)
    have h1 : drive_State.f s = some (stateL (lb s)) := by rw [drive_State.f, if_pos (by omega)]
    refine ⟨1, ?_⟩
    have hx : ((stateL (lb s) != 0) == decide (lb s ∈ tenL.take 10)) = true := by
      rw [beq_iff_eq, show tenL.take 10 = tenL from rfl, Bool.eq_iff_iff, bne_iff_ne, decide_eq_true_eq]; exact hin
    rw [flaillaw16_DriveStates.l0, if_neg (by decide), h1, Option.bind_some, if_pos rfl, if_pos hx, if_pos (by omega), decide_eq_true (by omega)]
  | n + 1, i, h => by
    obtain ⟨k, hk⟩ := states_l0 s hs n (i + 1) (by omega)
    obtain ⟨l1, l2, l3⟩ := litD_at i (by omega)
    have hw : wrap64 ((i : Int) + 1) = ((i + 1 : Nat) : Int) := by rw [w64 (by omega) (by omega)]; omega
    have hlen : (litD.length : Int) = 10 := rfl
    have hz : (rdOf ByteArray.empty litD (i : Int)).size ≤ 9 := by rw [← length_lb, l1]; exact l3
    generalize hnm : rdOf ByteArray.empty litD (i : Int) = nm at *
    have s1 : drive_State.f nm = some (stateL (lb nm)) := by rw [drive_State.f, if_pos (by omega)]
    have s2 : drive_State.f (nm ++ s) = some (stateL (lb nm ++ lb s)) := by rw [drive_State.f, if_pos (by rw [ByteArray.size_append]; omega), lb_append]
    have hin : lb nm ∈ tenL := by rw [l1]; exact l2
    have n0 : stateL (lb nm) ≠ 0 := (stateL_in _).2 hin
    have hj1 : flaillaw16_DriveStates.j1 (k + 1) s true litD (decide (lb s ∈ tenL.take i)) (i : Int) false = some true := by
      rw [flaillaw16_DriveStates.j1, if_neg (by decide), hlen, if_pos (by omega), if_pos (by omega), hnm, toList_lb, toList_lb, hw]
      by_cases c : lb nm = lb s
      · rw [if_pos c]
        have : decide (lb s ∈ tenL.take (i + 1)) = true := decide_eq_true ((ten_take _ i (by omega)).2 (.inr (by rw [← c, l1])))
        rw [this] at hk; exact hk
      · rw [if_neg c]
        have : decide (lb s ∈ tenL.take (i + 1)) = decide (lb s ∈ tenL.take i) := decide_eq_decide.2 ((ten_take _ i (by omega)).trans ⟨fun z => z.elim id (fun z => absurd (by rw [l1, z]) c), .inl⟩)
        rw [this] at hk; exact hk
    refine ⟨k + 1 + 1, ?_⟩
    rw [flaillaw16_DriveStates.l0, if_pos (by omega), hlen, if_pos (by omega), if_pos (by omega), hnm, s1, Option.bind_some, if_neg n0, if_pos (by omega), s2, Option.bind_some]
    by_cases c : lb s = []
    · have hx : (s.toList != ([] : List UInt8)) = false := by rw [toList_lb, c]; rfl
      rw [hx]
      by_cases d : stateL (lb nm ++ lb s) = 0
      · rw [if_pos d, hj1]
      · rw [if_neg d, hj1]
    · rw [state_more (lb nm) (lb s) hin c, if_pos rfl, hj1]
theorem DriveStates : flaillaw16_DriveStates.Pure := by
  intro s h0
  by_cases c1 : (s.size : Int) > 60
  · exact ⟨1, by rw [flaillaw16_DriveStates.f, awake16, Option.bind_some, if_pos c1]⟩
  obtain ⟨k, hk⟩ := states_l0 s (by omega) 10 0 rfl
  refine ⟨k, ?_⟩
  rw [flaillaw16_DriveStates.f, awake16, Option.bind_some, if_neg c1]
  exact hk
end Go.Proofs.YtmokjaddbmcopaaGreatDoor.Pure
end
namespace Go.Proofs.YtmokjaddbmcopaaGreatDoor.driveStates
open Go.ChangeShapes Go.WideShapes Go.ChangeAt Go.RowKit
open Go.ChangeMaps (open_string shut_string)
set_option linter.unusedVariables false
theorem own : ownKnob Tryz.prog.godebug = none := by kernel_rfl
set_option maxRecDepth 100000 in
theorem lifted (os : Os) (started : os.Started) (H : Type) (enc : TypeId × Value → H) :
    ReturnsInHanded {} Tryz.checked os 5 .any (fun w args => (Rows.driveStatesSpec.pre enc Tryz.prog Tryz.f5 Rows.driveStatesRow.domain false w args ∧ laidMetH Tryz.prog G.laidL w) ∧ sizedMet enc Tryz.prog Tryz.f5 (OpenSpec.ofChange Rows.driveStatesSpec) false w args) (Rows.driveStatesSpec.post enc Tryz.prog Tryz.f5 false true false false) := by
  refine G.returns_laid (C := Tryz.checked) (X := fun w _ => laidMetH Tryz.prog G.laidL w) (fun _ _ _ hh h => h.of_heap hh) own started (by kernel_rfl) Tryz.func5
    (ChangeSpec.witness_shaped (enc := enc) (C := Tryz.checked) (os := os) (X := fun w _ => laidMetH Tryz.prog G.laidL w) false (World.laidAll Tryz.prog os G.laidL) #[.string ByteArray.empty] 8 (World.laidAll_os _ _ _) (G.door_shaped os _) (by kernel_rfl) (by kernel_rfl) (by kernel_rfl) (G.door_met os _)) ?_
  intro W base args ds gs before hval0 hW hcnd hsz0 hL hSh _
  have hsz : (DataW.weightsEach Tryz.prog (Tryz.f5.params.toList ++ Rows.driveStatesSpec.plain.varTypes Tryz.prog) (ds ++ gs)).all (· ≤ reachBytes) = true := hsz0
  have hval : ∀ (j : Nat) t v, Tryz.f5.params[j]? = some t → args[j]? = some v → Value.okWide Tryz.prog W .any base t v := hval0
  have hW' := hW
  obtain ⟨p, q, hA0, hV, rfl, hfz, hnd⟩ := hW
  have hA : DataW.TrodAll enc Tryz.prog W 0 (fun _ => true) true Tryz.f5.params.toList args.toList ds p := hA0
  rw [Tryz.params5] at hA hval hsz
  obtain ⟨v0, vs0, d0, ds0, p0, q0, hargs, rfl, rfl, h0, r0⟩ := trodAll_cons hA
  obtain ⟨rfl, rfl, rfl⟩ := trodAll_nil r0
  obtain rfl : args = #[v0] := by cases args; simp_all
  obtain ⟨rfl, rfl⟩ := trodVars_none hV
  obtain ⟨a0, rfl, rfl, rfl, y0⟩ := open_string Tryz.underlying9 (hval 0 9 v0 rfl rfl) h0
  have w0 : a0.size ≤ 140737488351232 := by
    have z := sized_string hsz (j := 0) (t := 9) rfl rfl
    rw [Array.length_toList] at z
    exact z
  clear hA0 hval0 hsz0 hsz
  refine (P.flaillaw16_DriveStates.walk Pure.DriveStates a0 W w0 (G.gw_of_laid hL hSh)).mono fun e W' ⟨he, bel⟩ => ?_
  subst he
  exact ⟨_, rfl, _, _, _, [], _, [], hW', trodAll_mk1 (shut_bool Tryz.underlying4 _), (trodAll_cons_mk (shut_string Tryz.underlying9 y0) trodAll_mk0), rfl, bel.frame _, fun h => by cases h⟩
theorem over : Rows.driveStatesRow.holds Tryz.pinned (OpenSpec.ofChange Rows.driveStatesSpec) :=
  OpenClaim.holds_of_wide 5 Tryz.f5 rfl rfl rfl rfl rfl rfl rfl ⟨rfl, rfl, rfl, rfl, rfl⟩ rfl rfl rfl rfl rfl (by kernel_rfl) Tryz.func5 (by kernel_rfl)
    (of_decide_eq_true (by kernel_rfl)) (by unfold Func.isWrapper; first | (rw [if_pos (by decide +kernel)]; kernel_rfl) | (rw [if_neg (by decide +kernel)]; exact ⟨rfl, rfl⟩))
    (fun os started H enc _ => lifted os started H enc)
theorem tied : Rows.DriveStatesCardSaid :=
  Claim7.holds_tied_plain_at .later [] [.data, .data, .data, .data, .sentinel, .sentinel, .pinned] true (true, "6f41d958818cb672053107f8a3f0d0361b09ef8d81cd218887fe320d58960188") true
    over (fun _ h => by cases h) (by kernel_rfl) (fun _ h => by cases h) driveStates_row_tie rfl ⟨rfl, rfl⟩ (by kernel_rfl) rfl
    (fun f fn hf hfn => by
      obtain rfl : f = 5 := Option.some.inj ((show Tryz.prog.funcNamed "flail/flaillaw16.DriveStates" = some 5 by kernel_rfl).symm.trans hf) |>.symm
      obtain rfl : fn = Tryz.f5 := (Option.some.inj (Tryz.func5.symm.trans hfn)).symm
      exact ⟨by kernel_rfl, fun j t ht => by
        rw [Tryz.params5] at ht
        have hall : (Tryz.f5.params.toList.all fun u => !Tryz.prog.wantsStandIn u) = true := by kernel_rfl
        rw [Tryz.params5] at hall
        have hm := Array.mem_of_getElem? ht
        exact (show Tryz.prog.wantsStandIn t = false by simpa using List.all_eq_true.1 hall t (by simpa using hm))⟩)
    (by kernel_rfl)
#print axioms tied
end Go.Proofs.YtmokjaddbmcopaaGreatDoor.driveStates
namespace Go.Proofs.YtmokjaddbmcopaaGreatDoor
/-- The card, under a short name, for the claim. -/
theorem driveStates_holds : Rows.DriveStatesCardSaid := driveStates.tied
end Go.Proofs.YtmokjaddbmcopaaGreatDoor
