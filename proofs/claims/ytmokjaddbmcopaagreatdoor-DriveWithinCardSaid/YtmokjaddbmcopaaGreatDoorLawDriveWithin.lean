/- Proved: whatever its arguments, the call of the law DriveWithin returns true, and each argument reads behind the call as it read before. No conditions but the given row's own. -/
import Derived.Test.YtmokjaddbmcopaaGreatDoorRows
import Derived.Test.YtmokjaddbmcopaaGreatDoorTie
import Derived.Test.YtmokjaddbmcopaaGreatDoorCards
import Derived.Test.YtmokjaddbmcopaaGreatDoorRX
import Derived.SevenTiedAt
import Derived.Test.YtmokjaddbmcopaaGreatDoorPx38
import Derived.WalkKit
import Derived.ProofKit
import Derived.OpenShut
import Derived.ShutString
import Derived.ChangeOld
import Derived.Below
import Derived.SizedLaws
section
-- pruned2
/- Proved: what the printed function of the law DriveWithin answers is true, for all arguments within the row's own bounds: over numbers and lists alone. No further conditions. -/
namespace Go.Proofs.YtmokjaddbmcopaaGreatDoor.Pure
open Go.RowKit Go.Proofs.YtmokjaddbmcopaaGreatDoor.P Go.Proofs.YtmokjaddbmcopaaGreatDoor.G Go.Proofs.YtmokjaddbmcopaaGreatDoorW.PrintWords Go.Proofs.YtmokjaddbmcopaaGreatDoorW.PrintLast Go.Proofs.YtmokjaddbmcopaaGreatDoorW.PrintMore
set_option linter.unusedVariables false
set_option linter.unusedSimpArgs false
theorem tok_is (s nm : ByteArray) (st : Int) (hs : s.size ≤ 10000) (hn : nm.size ≤ 100000) : tok_Tok_o.f s st nm = some ((tokL st (lb nm) (lb s)).map mkT) := by rw [tok_Tok_o.f, if_pos ⟨hs, hn⟩]
theorem bt_of (s : ByteArray) (i : Nat) (c : UInt8) (h : (lb s)[i]? = some c) : bt s (i : Int) = (c.toNat : Int) := by
  rw [bt_lb, Int.toNat_natCast]; simp [at_, List.getD, h]
theorem take_not {c d : UInt8} {l : List UInt8} {i : Nat} (h : c ∉ l.take i) (hi : l[i]? = some d) (hd : d ≠ c) : c ∉ l.take (i + 1) := by
  rw [List.take_add_one, hi]
  intro hm
  rcases List.mem_append.1 hm with h1 | h1
  · exact h h1
  · exact hd (List.mem_singleton.1 (show c ∈ [d] from h1)).symm
theorem len_size (s : ByteArray) (i : Nat) (h : i < s.size) : ∃ d, (lb s)[i]? = some d := ⟨_, List.getElem?_eq_getElem (by rw [length_lb]; exact h)⟩
theorem awake16 : flaillaw16_awake_o.f = some true := rfl
theorem drv_is (s : ByteArray) (hs : s.size ≤ 10000) : drive_Drive_o.f s = some ((driveL (lb s)).map mkT) := by rw [drive_Drive_o.f, if_pos hs]
theorem all_drv (u : List UInt8) (hu : u.length ≤ 10000) (w : List S25) (h : w = (driveL u).map mkT) : flailref09_All_o.f ((driveL u).map mkT) w = some true :=
  all_self _ w (by have := drive_len u; omega) (fun t ht => by have := drive_att u t ht; omega) h
theorem state_is (b : List UInt8) (h : b.length ≤ 100000) : drive_State.f (bs b) = some (stateL b) := by rw [drive_State.f, if_pos (by rw [size_bs]; exact h), lb_bs]
theorem rd_mk (L : List TK) (i : Nat) (h : i < L.length) : rd_T25 (L.map mkT) (i : Int) = mkT L[i] := by
  rw [rd_TT (L.map mkT) i (by rw [List.length_map]; exact h), List.getElem_map]
def litW : List ByteArray := [(⟨#[116, 105, 116, 108, 101]⟩ : ByteArray), (⟨#[116, 101, 120, 116, 97, 114, 101, 97]⟩ : ByteArray), (⟨#[115, 116, 121, 108, 101]⟩ : ByteArray), (⟨#[120, 109, 112]⟩ : ByteArray), (⟨#[105, 102, 114, 97, 109, 101]⟩ : ByteArray), (⟨#[110, 111, 101, 109, 98, 101, 100]⟩ : ByteArray), (⟨#[110, 111, 102, 114, 97, 109, 101, 115]⟩ : ByteArray), (⟨#[110, 111, 115, 99, 114, 105, 112, 116]⟩ : ByteArray), (⟨#[115, 99, 114, 105, 112, 116]⟩ : ByteArray), (⟨#[112, 108, 97, 105, 110, 116, 101, 120, 116]⟩ : ByteArray), (⟨#[112]⟩ : ByteArray)]
theorem litW_at : ∀ i : Nat, i < 11 → lb (rdOf ByteArray.empty litW (i : Int)) ≠ [] ∧ (lb (rdOf ByteArray.empty litW (i : Int))).length ≤ 9 ∧ ∀ x ∈ lb (rdOf ByteArray.empty litW (i : Int)), letB x = true ∧ lowU x = x := by decide +kernel
theorem within_l0 (s nm : ByteArray) (hs : s.size ≤ 300) (hn : nm.size ≤ 9) (hne : lb nm ≠ []) (hlet : ∀ x ∈ lb nm, letB x = true ∧ lowU x = x) (L : List TK) (hL : L = tokL (stateL (lb nm)) (lb nm) (lb s)) : ∀ (n i : Nat), i + n = L.length → (∀ t ∈ L.take i, t.1 = 1 → stateL t.2.1 = 0) → flaillaw16_DriveWithin.l0 (n + 1) s true nm (L.map mkT) (i : Int) = some true
  | 0, i, h, hst => by
    have hl := length_lb s
    have hln := length_lb nm
    have hlen := tokL_len (stateL (lb nm)) (lb nm) (lb s)
    rw [← hL] at hlen
    rw [List.take_of_length_le (by omega)] at hst
    have hz1 : ((⟨#[60]⟩ : ByteArray) ++ nm).size = 1 + nm.size := by rw [ByteArray.size_append]; rfl
    have hz2 : ((⟨#[60]⟩ : ByteArray) ++ nm ++ (⟨#[62]⟩ : ByteArray)).size = 1 + nm.size + 1 := by rw [ByteArray.size_append, hz1]; rfl
    have hz3 : ((⟨#[60]⟩ : ByteArray) ++ nm ++ (⟨#[62]⟩ : ByteArray) ++ s).size = 1 + nm.size + 1 + s.size := by rw [ByteArray.size_append, hz2]
    have hx : lb ((⟨#[60]⟩ : ByteArray) ++ nm ++ (⟨#[62]⟩ : ByteArray) ++ s) = 60 :: (lb nm ++ 62 :: lb s) := by
      rw [lb_append, lb_append, lb_append, List.append_assoc, List.append_assoc]; rfl
    have e : driveL (60 :: (lb nm ++ 62 :: lb s)) = (1, lb nm, [], [], false) :: L := by
      rw [hL]
      exact drive_within (lb nm) (lb s) hne (fun x hx => (hlet x hx).1) (low_self (fun x hx => (hlet x hx).2)) (by rw [hL] at hst; exact hst)
    have hd := drv_is ((⟨#[60]⟩ : ByteArray) ++ nm ++ (⟨#[62]⟩ : ByteArray) ++ s) (by omega)
    rw [hx] at hd
    have ha := all_drv (60 :: (lb nm ++ 62 :: lb s)) (by rw [← hx, length_lb]; omega) ([⟨1, nm, ⟨#[]⟩, [], false⟩] ++ L.map mkT) (by
      rw [e, List.map_cons]
      show _ = (⟨1, bs (lb nm), bs [], EA [], false⟩ : S25) :: L.map mkT
      rw [bs_lb]; rfl)
    rw [flaillaw16_DriveWithin.l0, List.length_map, if_neg (by omega), if_pos rfl, if_pos (by omega), if_pos (by omega), if_pos (by omega), hd, Option.bind_some, Option.bind_some, if_pos (by rw [List.length_singleton]; omega), ha, Option.bind_some]
  | n + 1, i, h, hst => by
    have hi : i < L.length := by omega
    have hlen := tokL_len (stateL (lb nm)) (lb nm) (lb s)
    rw [length_lb, ← hL] at hlen
    have hnm : L[i].2.1.length ≤ 3 * s.size := by
      have hm : L[i] ∈ tokL (stateL (lb nm)) (lb nm) (lb s) := hL ▸ List.getElem_mem hi
      have := tokL_name (stateL (lb nm)) (lb nm) (lb s) _ hm
      rw [length_lb] at this; exact this
    have i1 : (i : Int) < ((L.map mkT).length : Int) := by rw [List.length_map]; omega
    have hw : wrap64 ((i : Int) + 1) = ((i + 1 : Nat) : Int) := by rw [w64 (by omega) (by omega)]; omega
    have rd := rd_mk L i hi
    have hs1 : drive_State.f (mkT L[i]).f1 = some (stateL L[i].2.1) := state_is _ (by omega)
    have e0 : (mkT L[i]).f0 = L[i].1 := rfl
    have ih : (L[i].1 = 1 → stateL L[i].2.1 = 0) → flaillaw16_DriveWithin.l0 (n + 1) s true nm (L.map mkT) ((i + 1 : Nat) : Int) = some true := fun hx => within_l0 s nm hs hn hne hlet L hL n (i + 1) (by omega) (fun t ht => by
      rw [List.take_add_one, List.getElem?_eq_getElem hi, Option.toList_some] at ht
      rcases List.mem_append.1 ht with ht | ht
      · exact hst t ht
      · rw [List.mem_singleton.1 ht]; exact hx)
    rw [flaillaw16_DriveWithin.l0, if_pos i1, if_pos (by omega), rd, e0, hs1, Option.bind_some, hw]
    by_cases c : L[i].1 = 1
    · rw [if_pos c]
      by_cases d : stateL L[i].2.1 = 0
      · rw [if_pos d, ih (fun _ => d)]
      · rw [if_neg d]
    · rw [if_neg c, ih (fun x => absurd x c)]
theorem DriveWithin : flaillaw16_DriveWithin.Pure := by
  intro s wh h0 h1
  have hw : 0 ≤ wh ∧ wh ≤ 255 := wf_u8 h1
  by_cases c1 : (s.size : Int) > 300
  · exact ⟨1, by rw [flaillaw16_DriveWithin.f, awake16, Option.bind_some, if_pos c1]⟩
  have hlen : (litW.length : Int) = 11 := rfl
  have hmod : Int.tmod (wrap64 wh) 11 = ((wh.toNat % 11 : Nat) : Int) := by
    rw [w64 (by omega) (by omega), Int.tmod_eq_emod_of_nonneg hw.1]; omega
  obtain ⟨a1, a2, a3⟩ := litW_at (wh.toNat % 11) (Nat.mod_lt _ (show 0 < 11 by decide))
  have hlt : wh.toNat % 11 < 11 := Nat.mod_lt _ (by decide)
  generalize hk : wh.toNat % 11 = j at *
  generalize hnm : rdOf ByteArray.empty litW (j : Int) = nm at *
  rw [length_lb] at a2
  have s1 : drive_State.f nm = some (stateL (lb nm)) := by rw [drive_State.f, if_pos (by omega)]
  refine ⟨(tokL (stateL (lb nm)) (lb nm) (lb s)).length + 1, ?_⟩
  rw [flaillaw16_DriveWithin.f, awake16, Option.bind_some, if_neg c1, Option.bind_some]
  have hgoal : (if (litW.length : Int) = 0 then (none : Option Bool) else (if 0 ≤ (Int.tmod (wrap64 wh) (litW.length : Int)) then (if (Int.tmod (wrap64 wh) (litW.length : Int)) < (litW.length : Int) then ((drive_State.f (rdOf ByteArray.empty litW (Int.tmod (wrap64 wh) (litW.length : Int)))).bind fun t352 => ((tok_Tok_o.f s t352 (rdOf ByteArray.empty litW (Int.tmod (wrap64 wh) (litW.length : Int)))).bind fun t353 => (flaillaw16_DriveWithin.l0 ((tokL (stateL (lb nm)) (lb nm) (lb s)).length + 1) s true (rdOf ByteArray.empty litW (Int.tmod (wrap64 wh) (litW.length : Int))) t353 0))) else none) else none)) = some true := by
    rw [hlen, hmod, if_neg (by decide), if_pos (by omega), if_pos (by omega), hnm, s1, Option.bind_some, tok_is s nm _ (by omega) (by omega), Option.bind_some]
    exact within_l0 s nm (by omega) (by omega) a1 a3 _ rfl _ 0 (Nat.zero_add _) (fun t ht => by cases ht)
  exact hgoal
end Go.Proofs.YtmokjaddbmcopaaGreatDoor.Pure
end
namespace Go.Proofs.YtmokjaddbmcopaaGreatDoor.driveWithin
open Go.ChangeShapes Go.WideShapes Go.ChangeAt Go.RowKit
open Go.ChangeMaps (open_string shut_string)
set_option linter.unusedVariables false
theorem own : ownKnob Tryz.prog.godebug = none := by kernel_rfl
set_option maxRecDepth 100000 in
theorem lifted (os : Os) (started : os.Started) (H : Type) (enc : TypeId × Value → H) :
    ReturnsInHanded {} Tryz.checked os 7 .any (fun w args => (Rows.driveWithinSpec.pre enc Tryz.prog Tryz.f7 Rows.driveWithinRow.domain false w args ∧ laidMetH Tryz.prog G.laidL w) ∧ sizedMet enc Tryz.prog Tryz.f7 (OpenSpec.ofChange Rows.driveWithinSpec) false w args) (Rows.driveWithinSpec.post enc Tryz.prog Tryz.f7 false true false false) := by
  refine G.returns_laid (C := Tryz.checked) (X := fun w _ => laidMetH Tryz.prog G.laidL w) (fun _ _ _ hh h => h.of_heap hh) own started (by kernel_rfl) Tryz.func7
    (ChangeSpec.witness_shaped (enc := enc) (C := Tryz.checked) (os := os) (X := fun w _ => laidMetH Tryz.prog G.laidL w) false (World.laidAll Tryz.prog os G.laidL) #[.string ByteArray.empty, .int .u8 0] 8 (World.laidAll_os _ _ _) (G.door_shaped os _) (by kernel_rfl) (by kernel_rfl) (by kernel_rfl) (G.door_met os _)) ?_
  intro W base args ds gs before hval0 hW hcnd hsz0 hL hSh _
  have hsz : (DataW.weightsEach Tryz.prog (Tryz.f7.params.toList ++ Rows.driveWithinSpec.plain.varTypes Tryz.prog) (ds ++ gs)).all (· ≤ reachBytes) = true := hsz0
  have hval : ∀ (j : Nat) t v, Tryz.f7.params[j]? = some t → args[j]? = some v → Value.okWide Tryz.prog W .any base t v := hval0
  have hW' := hW
  obtain ⟨p, q, hA0, hV, rfl, hfz, hnd⟩ := hW
  have hA : DataW.TrodAll enc Tryz.prog W 0 (fun _ => true) true Tryz.f7.params.toList args.toList ds p := hA0
  rw [Tryz.params7] at hA hval hsz
  obtain ⟨v0, vs0, d0, ds0, p0, q0, hargs, rfl, rfl, h0, r0⟩ := trodAll_cons hA
  obtain ⟨v1, vs1, d1, ds1, p1, q1, rfl, rfl, rfl, h1, r1⟩ := trodAll_cons r0
  obtain ⟨rfl, rfl, rfl⟩ := trodAll_nil r1
  obtain rfl : args = #[v0, v1] := by cases args; simp_all
  obtain ⟨rfl, rfl⟩ := trodVars_none hV
  obtain ⟨a0, rfl, rfl, rfl, y0⟩ := open_string Tryz.underlying9 (hval 0 9 v0 rfl rfl) h0
  have w0 : a0.size ≤ 140737488351232 := by
    have z := sized_string hsz (j := 0) (t := 9) rfl rfl
    rw [Array.length_toList] at z
    exact z
  obtain ⟨a1, rfl, rfl, rfl, w1⟩ := open_int Tryz.underlying5 (hval 1 5 v1 rfl rfl) h1
  clear hA0 hval0 hsz0 hsz
  refine (P.flaillaw16_DriveWithin.walk Pure.DriveWithin a0 a1 W w0 w1 (G.gw_of_laid hL hSh)).mono fun e W' ⟨he, bel⟩ => ?_
  subst he
  exact ⟨_, rfl, _, _, _, [], _, [], hW', trodAll_mk1 (shut_bool Tryz.underlying4 _), (trodAll_cons_mk (shut_string Tryz.underlying9 y0) (trodAll_cons_mk (shut_int Tryz.underlying5 w1) trodAll_mk0)), rfl, bel.frame _, fun h => by cases h⟩
theorem over : Rows.driveWithinRow.holds Tryz.pinned (OpenSpec.ofChange Rows.driveWithinSpec) :=
  OpenClaim.holds_of_wide 7 Tryz.f7 rfl rfl rfl rfl rfl rfl rfl ⟨rfl, rfl, rfl, rfl, rfl⟩ rfl rfl rfl rfl rfl (by kernel_rfl) Tryz.func7 (by kernel_rfl)
    (of_decide_eq_true (by kernel_rfl)) (by unfold Func.isWrapper; first | (rw [if_pos (by decide +kernel)]; kernel_rfl) | (rw [if_neg (by decide +kernel)]; exact ⟨rfl, rfl⟩))
    (fun os started H enc _ => lifted os started H enc)
theorem tied : Rows.DriveWithinCardSaid :=
  Claim7.holds_tied_plain_at .later [] [.data, .data, .data, .data, .sentinel, .sentinel, .pinned] true (true, "6f41d958818cb672053107f8a3f0d0361b09ef8d81cd218887fe320d58960188") true
    over (fun _ h => by cases h) (by kernel_rfl) (fun _ h => by cases h) driveWithin_row_tie rfl ⟨rfl, rfl⟩ (by kernel_rfl) rfl
    (fun f fn hf hfn => by
      obtain rfl : f = 7 := Option.some.inj ((show Tryz.prog.funcNamed "flail/flaillaw16.DriveWithin" = some 7 by kernel_rfl).symm.trans hf) |>.symm
      obtain rfl : fn = Tryz.f7 := (Option.some.inj (Tryz.func7.symm.trans hfn)).symm
      exact ⟨by kernel_rfl, fun j t ht => by
        rw [Tryz.params7] at ht
        have hall : (Tryz.f7.params.toList.all fun u => !Tryz.prog.wantsStandIn u) = true := by kernel_rfl
        rw [Tryz.params7] at hall
        have hm := Array.mem_of_getElem? ht
        exact (show Tryz.prog.wantsStandIn t = false by simpa using List.all_eq_true.1 hall t (by simpa using hm))⟩)
    (by kernel_rfl)
#print axioms tied
end Go.Proofs.YtmokjaddbmcopaaGreatDoor.driveWithin
namespace Go.Proofs.YtmokjaddbmcopaaGreatDoor
/-- The card, under a short name, for the claim. -/
theorem driveWithin_holds : Rows.DriveWithinCardSaid := driveWithin.tied
end Go.Proofs.YtmokjaddbmcopaaGreatDoor
