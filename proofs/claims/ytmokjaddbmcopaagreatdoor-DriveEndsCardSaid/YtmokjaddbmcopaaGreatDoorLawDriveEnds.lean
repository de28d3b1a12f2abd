/- Proved: whatever its arguments, the call of the law DriveEnds returns true, and each argument reads behind the call as it read before. No conditions but the given row's own. -/
import Derived.Test.YtmokjaddbmcopaaGreatDoorRows
import Derived.Test.YtmokjaddbmcopaaGreatDoorTie
import Derived.Test.YtmokjaddbmcopaaGreatDoorCards
import Derived.Test.YtmokjaddbmcopaaGreatDoorRX
import Derived.SevenTiedAt
import Derived.Test.YtmokjaddbmcopaaGreatDoorPx39
import Derived.WalkKit
import Derived.ProofKit
import Derived.OpenShut
import Derived.ShutString
import Derived.ChangeOld
import Derived.Below
import Derived.SizedLaws
section
-- pruned2
/- Proved: what the printed function of the law DriveEnds answers is true, for all arguments within the row's own bounds: over numbers and lists alone. No further conditions. -/
namespace Go.Proofs.YtmokjaddbmcopaaGreatDoor.Pure
open Go.RowKit Go.Proofs.YtmokjaddbmcopaaGreatDoor.P Go.Proofs.YtmokjaddbmcopaaGreatDoor.G Go.Proofs.YtmokjaddbmcopaaGreatDoorW.PrintWords Go.Proofs.YtmokjaddbmcopaaGreatDoorW.PrintLast Go.Proofs.YtmokjaddbmcopaaGreatDoorW.PrintMore
set_option linter.unusedVariables false
set_option linter.unusedSimpArgs false
theorem tok_is (s nm : ByteArray) (st : Int) (hs : s.size ≤ 10000) (hn : nm.size ≤ 100000) : tok_Tok_o.f s st nm = some ((tokL st (lb nm) (lb s)).map mkT) := by rw [tok_Tok_o.f, if_pos ⟨hs, hn⟩]
theorem bt_of (s : ByteArray) (i : Nat) (c : UInt8) (h : (lb s)[i]? = some c) : bt s (i : Int) = (c.toNat : Int) := by
  rw [bt_lb, Int.toNat_natCast]; simp [at_, List.getD, h]
theorem take_not {c d : UInt8} {l : List UInt8} {i : Nat} (h : c ∉ l.take i) (hi : l[i]? = some d) (hd : d ≠ c) : c ∉ l.take (i + 1) := by
  rw [List.take_add_one, hi]
  intro hm
  rcases List.mem_append.1 hm with h1 | h1
  · exact h h1
  · exact hd (List.mem_singleton.1 (show c ∈ [d] from h1)).symm
theorem len_size (s : ByteArray) (i : Nat) (h : i < s.size) : ∃ d, (lb s)[i]? = some d := ⟨_, List.getElem?_eq_getElem (by rw [length_lb]; exact h)⟩
theorem awake16 : flaillaw16_awake_o.f = some true := rfl
theorem drv_is (s : ByteArray) (hs : s.size ≤ 10000) : drive_Drive_o.f s = some ((driveL (lb s)).map mkT) := by rw [drive_Drive_o.f, if_pos hs]
theorem all_drv (u : List UInt8) (hu : u.length ≤ 10000) (w : List S25) (h : w = (driveL u).map mkT) : flailref09_All_o.f ((driveL u).map mkT) w = some true :=
  all_self _ w (by have := drive_len u; omega) (fun t ht => by have := drive_att u t ht; omega) h
theorem state_is (b : List UInt8) (h : b.length ≤ 100000) : drive_State.f (bs b) = some (stateL b) := by rw [drive_State.f, if_pos (by rw [size_bs]; exact h), lb_bs]
theorem rd_mk (L : List TK) (i : Nat) (h : i < L.length) : rd_T25 (L.map mkT) (i : Int) = mkT L[i] := by
  rw [rd_TT (L.map mkT) i (by rw [List.length_map]; exact h), List.getElem_map]
def litE : List ByteArray := [(⟨#[116, 105, 116, 108, 101]⟩ : ByteArray), (⟨#[116, 101, 120, 116, 97, 114, 101, 97]⟩ : ByteArray), (⟨#[115, 116, 121, 108, 101]⟩ : ByteArray), (⟨#[120, 109, 112]⟩ : ByteArray), (⟨#[105, 102, 114, 97, 109, 101]⟩ : ByteArray), (⟨#[110, 111, 101, 109, 98, 101, 100]⟩ : ByteArray), (⟨#[110, 111, 102, 114, 97, 109, 101, 115]⟩ : ByteArray), (⟨#[110, 111, 115, 99, 114, 105, 112, 116]⟩ : ByteArray), (⟨#[115, 99, 114, 105, 112, 116]⟩ : ByteArray)]
theorem litE_at : ∀ i : Nat, i < 9 → lb (rdOf ByteArray.empty litE (i : Int)) ∈ tenL ∧ (lb (rdOf ByteArray.empty litE (i : Int))).length ≤ 9 ∧ stateL (lb (rdOf ByteArray.empty litE (i : Int))) ≠ 4 := by decide +kernel
theorem ends_l0 (s more : ByteArray) (wh : Int) (hw : 0 ≤ wh ∧ wh ≤ 255) (hs : s.size ≤ 300) (hm : more.size ≤ 300) : ∀ (n i : Nat), i + n = s.size → (60 : UInt8) ∉ (lb s).take i → flaillaw16_DriveEnds.l0 (n + 1) s more wh true (i : Int) = some true
  | 0, i, h, h60 => by
    have hl := length_lb s
    have hlm := length_lb more
    rw [List.take_of_length_le (by omega)] at h60
    have hlen : (litE.length : Int) = 9 := rfl
    have hmod : Int.tmod (wrap64 wh) 9 = ((wh.toNat % 9 : Nat) : Int) := by
      rw [w64 (by omega) (by omega), Int.tmod_eq_emod_of_nonneg hw.1]; omega
    obtain ⟨a1, a2, a3⟩ := litE_at (wh.toNat % 9) (Nat.mod_lt _ (show 0 < 9 by decide))
    have hlt : wh.toNat % 9 < 9 := Nat.mod_lt _ (by decide)
    rw [flaillaw16_DriveEnds.l0, if_neg (by omega), Option.bind_some]
    change (if 0 ≤ (Int.tmod (wrap64 wh) 9) then (if (Int.tmod (wrap64 wh) 9) < (litE.length : Int) then _ else none) else none) = some true
    rw [hlen, hmod, if_pos (by omega), if_pos (by omega)]
    change ((some ([(⟨1, rdOf ByteArray.empty litE ((wh.toNat % 9 : Nat) : Int), (⟨#[]⟩ : ByteArray), [], false⟩ : S25)])).bind fun y374 => ((drive_State.f (rdOf ByteArray.empty litE ((wh.toNat % 9 : Nat) : Int))).bind fun t377 => _)) = some true
    generalize hk : wh.toNat % 9 = j at *
    have hd0 : ∀ l : List ByteArray, l = litE → rdOf ByteArray.empty l (j : Int) = rdOf ByteArray.empty litE (j : Int) := fun l e => by rw [e]
    simp only [hd0 _ (show [(⟨#[116, 105, 116, 108, 101]⟩ : ByteArray), (⟨#[116, 101, 120, 116, 97, 114, 101, 97]⟩ : ByteArray), (⟨#[115, 116, 121, 108, 101]⟩ : ByteArray), (⟨#[120, 109, 112]⟩ : ByteArray), (⟨#[105, 102, 114, 97, 109, 101]⟩ : ByteArray), (⟨#[110, 111, 101, 109, 98, 101, 100]⟩ : ByteArray), (⟨#[110, 111, 102, 114, 97, 109, 101, 115]⟩ : ByteArray), (⟨#[110, 111, 115, 99, 114, 105, 112, 116]⟩ : ByteArray), (⟨#[115, 99, 114, 105, 112, 116]⟩ : ByteArray)] = litE from rfl)]
    generalize hnm : rdOf ByteArray.empty litE (j : Int) = nm at *
    rw [length_lb] at a2
    have hln := length_lb nm
    have s1 : drive_State.f nm = some (stateL (lb nm)) := by rw [drive_State.f, if_pos (by omega)]
    have z1 : ((⟨#[60]⟩ : ByteArray) ++ nm).size = 1 + nm.size := by rw [ByteArray.size_append]; rfl
    have z2 : ((⟨#[60]⟩ : ByteArray) ++ nm ++ (⟨#[62]⟩ : ByteArray)).size = 2 + nm.size := by rw [ByteArray.size_append, z1, show (⟨#[62]⟩ : ByteArray).size = 1 from rfl]; omega
    have z3 : ((⟨#[60]⟩ : ByteArray) ++ nm ++ (⟨#[62]⟩ : ByteArray) ++ s).size = 2 + nm.size + s.size := by rw [ByteArray.size_append, z2]
    have z4 : ((⟨#[60]⟩ : ByteArray) ++ nm ++ (⟨#[62]⟩ : ByteArray) ++ s ++ (⟨#[60, 47]⟩ : ByteArray)).size = 4 + nm.size + s.size := by rw [ByteArray.size_append, z3, show (⟨#[60, 47]⟩ : ByteArray).size = 2 from rfl]; omega
    have z5 : ((⟨#[60]⟩ : ByteArray) ++ nm ++ (⟨#[62]⟩ : ByteArray) ++ s ++ (⟨#[60, 47]⟩ : ByteArray) ++ nm).size = 4 + nm.size + s.size + nm.size := by rw [ByteArray.size_append, z4]
    have z6 : ((⟨#[60]⟩ : ByteArray) ++ nm ++ (⟨#[62]⟩ : ByteArray) ++ s ++ (⟨#[60, 47]⟩ : ByteArray) ++ nm ++ (⟨#[62]⟩ : ByteArray)).size = 5 + nm.size + s.size + nm.size := by rw [ByteArray.size_append, z5, show (⟨#[62]⟩ : ByteArray).size = 1 from rfl]; omega
    have z7 : ((⟨#[60]⟩ : ByteArray) ++ nm ++ (⟨#[62]⟩ : ByteArray) ++ s ++ (⟨#[60, 47]⟩ : ByteArray) ++ nm ++ (⟨#[62]⟩ : ByteArray) ++ more).size = 5 + nm.size + s.size + nm.size + more.size := by rw [ByteArray.size_append, z6]
    have hx : lb ((⟨#[60]⟩ : ByteArray) ++ nm ++ (⟨#[62]⟩ : ByteArray) ++ s ++ (⟨#[60, 47]⟩ : ByteArray) ++ nm ++ (⟨#[62]⟩ : ByteArray) ++ more) = 60 :: (lb nm ++ 62 :: (lb s ++ 60 :: 47 :: (lb nm ++ 62 :: lb more))) := by
      simp only [lb_append, List.append_assoc]; rfl
    have e := drive_ends (lb nm) (lb s) (lb more) a1 a3 h60
    have hd := drv_is ((⟨#[60]⟩ : ByteArray) ++ nm ++ (⟨#[62]⟩ : ByteArray) ++ s ++ (⟨#[60, 47]⟩ : ByteArray) ++ nm ++ (⟨#[62]⟩ : ByteArray) ++ more) (by omega)
    rw [hx] at hd
    have n1 := tokL_len (stateL (lb nm)) (lb nm) (lb s)
    have n2 := drive_len (lb more)
    have hb : ∀ k : Int, (⟨k, nm, ⟨#[]⟩, [], false⟩ : S25) = mkT (k, lb nm, [], [], false) := fun k => by
      show _ = (⟨k, bs (lb nm), bs [], EA [], false⟩ : S25)
      rw [bs_lb]; rfl
    have ha := all_drv (60 :: (lb nm ++ 62 :: (lb s ++ 60 :: 47 :: (lb nm ++ 62 :: lb more)))) (by rw [← hx, length_lb]; omega) ([⟨1, nm, ⟨#[]⟩, [], false⟩] ++ (tokL (stateL (lb nm)) (lb nm) (lb s)).map mkT ++ [⟨2, nm, ⟨#[]⟩, [], false⟩] ++ (driveL (lb more)).map mkT) (by
      rw [e, hb 1, hb 2]; simp only [List.map_cons, List.map_append, List.append_assoc, List.singleton_append, List.cons_append, List.nil_append])
    rw [Option.bind_some, s1, Option.bind_some, tok_is s nm _ (by omega) (by omega), Option.bind_some, if_pos (by rw [List.length_map, List.length_singleton]; omega), Option.bind_some, if_pos (by rw [List.length_append, List.length_map, List.length_singleton]; omega), Option.bind_some, drv_is more (by omega), Option.bind_some,
      if_pos (by rw [List.length_append, List.length_append, List.length_map, List.length_map, List.length_singleton, List.length_singleton]; omega), if_pos trivial, if_pos (by omega), if_pos (by omega), if_pos (by omega), if_pos (by omega), if_pos (by omega), if_pos (by omega), if_pos (by omega), hd, Option.bind_some, ha, Option.bind_some]
  | n + 1, i, h, h60 => by
    obtain ⟨d, hd⟩ := len_size s i (by omega)
    rw [flaillaw16_DriveEnds.l0, if_pos (by omega), if_pos (by omega), bt_of s i d hd]
    by_cases c : d = 60
    · rw [c, if_pos (by decide)]
    · rw [if_neg (fun z => c (u8_nat.1 (by show _ = 60; omega))), w64 (by omega) (by omega), show (i : Int) + 1 = ((i + 1 : Nat) : Int) by omega]
      exact ends_l0 s more wh hw hs hm n (i + 1) (by omega) (take_not h60 hd c)
theorem DriveEnds : flaillaw16_DriveEnds.Pure := by
  intro s more wh h0 h1 h2
  have hw : 0 ≤ wh ∧ wh ≤ 255 := wf_u8 h2
  by_cases c1 : (s.size : Int) > 300
  · exact ⟨1, by rw [flaillaw16_DriveEnds.f, awake16, Option.bind_some, if_pos c1, flaillaw16_DriveEnds.j0, if_pos rfl]⟩
  by_cases c2 : 300 < (more.size : Int)
  · exact ⟨1, by rw [flaillaw16_DriveEnds.f, awake16, Option.bind_some, if_neg c1, decide_eq_true c2, flaillaw16_DriveEnds.j0, if_pos rfl]⟩
  refine ⟨s.size + 1 + 1, ?_⟩
  rw [flaillaw16_DriveEnds.f, awake16, Option.bind_some, if_neg c1, decide_eq_false c2, flaillaw16_DriveEnds.j0, if_neg (by decide)]
  exact ends_l0 s more wh hw (by omega) (by omega) s.size 0 (by omega) (by simp)
end Go.Proofs.YtmokjaddbmcopaaGreatDoor.Pure
end
namespace Go.Proofs.YtmokjaddbmcopaaGreatDoor.driveEnds
open Go.ChangeShapes Go.WideShapes Go.ChangeAt Go.RowKit
open Go.ChangeMaps (open_string shut_string)
set_option linter.unusedVariables false
theorem own : ownKnob Tryz.prog.godebug = none := by kernel_rfl
set_option maxRecDepth 100000 in
theorem lifted (os : Os) (started : os.Started) (H : Type) (enc : TypeId × Value → H) :
    ReturnsInHanded {} Tryz.checked os 8 .any (fun w args => (Rows.driveEndsSpec.pre enc Tryz.prog Tryz.f8 Rows.driveEndsRow.domain false w args ∧ laidMetH Tryz.prog G.laidL w) ∧ sizedMet enc Tryz.prog Tryz.f8 (OpenSpec.ofChange Rows.driveEndsSpec) false w args) (Rows.driveEndsSpec.post enc Tryz.prog Tryz.f8 false true false false) := by
  refine G.returns_laid (C := Tryz.checked) (X := fun w _ => laidMetH Tryz.prog G.laidL w) (fun _ _ _ hh h => h.of_heap hh) own started (by kernel_rfl) Tryz.func8
    (ChangeSpec.witness_shaped (enc := enc) (C := Tryz.checked) (os := os) (X := fun w _ => laidMetH Tryz.prog G.laidL w) false (World.laidAll Tryz.prog os G.laidL) #[.string ByteArray.empty, .string ByteArray.empty, .int .u8 0] 8 (World.laidAll_os _ _ _) (G.door_shaped os _) (by kernel_rfl) (by kernel_rfl) (by kernel_rfl) (G.door_met os _)) ?_
  intro W base args ds gs before hval0 hW hcnd hsz0 hL hSh _
  have hsz : (DataW.weightsEach Tryz.prog (Tryz.f8.params.toList ++ Rows.driveEndsSpec.plain.varTypes Tryz.prog) (ds ++ gs)).all (· ≤ reachBytes) = true := hsz0
  have hval : ∀ (j : Nat) t v, Tryz.f8.params[j]? = some t → args[j]? = some v → Value.okWide Tryz.prog W .any base t v := hval0
  have hW' := hW
  obtain ⟨p, q, hA0, hV, rfl, hfz, hnd⟩ := hW
  have hA : DataW.TrodAll enc Tryz.prog W 0 (fun _ => true) true Tryz.f8.params.toList args.toList ds p := hA0
  rw [Tryz.params8] at hA hval hsz
  obtain ⟨v0, vs0, d0, ds0, p0, q0, hargs, rfl, rfl, h0, r0⟩ := trodAll_cons hA
  obtain ⟨v1, vs1, d1, ds1, p1, q1, rfl, rfl, rfl, h1, r1⟩ := trodAll_cons r0
  obtain ⟨v2, vs2, d2, ds2, p2, q2, rfl, rfl, rfl, h2, r2⟩ := trodAll_cons r1
  obtain ⟨rfl, rfl, rfl⟩ := trodAll_nil r2
  obtain rfl : args = #[v0, v1, v2] := by cases args; simp_all
  obtain ⟨rfl, rfl⟩ := trodVars_none hV
  obtain ⟨a0, rfl, rfl, rfl, y0⟩ := open_string Tryz.underlying9 (hval 0 9 v0 rfl rfl) h0
  have w0 : a0.size ≤ 140737488351232 := by
    have z := sized_string hsz (j := 0) (t := 9) rfl rfl
    rw [Array.length_toList] at z
    exact z
  obtain ⟨a1, rfl, rfl, rfl, y1⟩ := open_string Tryz.underlying9 (hval 1 9 v1 rfl rfl) h1
  have w1 : a1.size ≤ 140737488351232 := by
    have z := sized_string hsz (j := 1) (t := 9) rfl rfl
    rw [Array.length_toList] at z
    exact z
  obtain ⟨a2, rfl, rfl, rfl, w2⟩ := open_int Tryz.underlying5 (hval 2 5 v2 rfl rfl) h2
  clear hA0 hval0 hsz0 hsz
  refine (P.flaillaw16_DriveEnds.walk Pure.DriveEnds a0 a1 a2 W w0 w1 w2 (G.gw_of_laid hL hSh)).mono fun e W' ⟨he, bel⟩ => ?_
  subst he
  exact ⟨_, rfl, _, _, _, [], _, [], hW', trodAll_mk1 (shut_bool Tryz.underlying4 _), (trodAll_cons_mk (shut_string Tryz.underlying9 y0) (trodAll_cons_mk (shut_string Tryz.underlying9 y1) (trodAll_cons_mk (shut_int Tryz.underlying5 w2) trodAll_mk0))), rfl, bel.frame _, fun h => by cases h⟩
theorem over : Rows.driveEndsRow.holds Tryz.pinned (OpenSpec.ofChange Rows.driveEndsSpec) :=
  OpenClaim.holds_of_wide 8 Tryz.f8 rfl rfl rfl rfl rfl rfl rfl ⟨rfl, rfl, rfl, rfl, rfl⟩ rfl rfl rfl rfl rfl (by kernel_rfl) Tryz.func8 (by kernel_rfl)
    (of_decide_eq_true (by kernel_rfl)) (by unfold Func.isWrapper; first | (rw [if_pos (by decide +kernel)]; kernel_rfl) | (rw [if_neg (by decide +kernel)]; exact ⟨rfl, rfl⟩))
    (fun os started H enc _ => lifted os started H enc)
theorem tied : Rows.DriveEndsCardSaid :=
  Claim7.holds_tied_plain_at .later [] [.data, .data, .data, .data, .sentinel, .sentinel, .pinned] true (true, "6f41d958818cb672053107f8a3f0d0361b09ef8d81cd218887fe320d58960188") true
    over (fun _ h => by cases h) (by kernel_rfl) (fun _ h => by cases h) driveEnds_row_tie rfl ⟨rfl, rfl⟩ (by kernel_rfl) rfl
    (fun f fn hf hfn => by
      obtain rfl : f = 8 := Option.some.inj ((show Tryz.prog.funcNamed "flail/flaillaw16.DriveEnds" = some 8 by kernel_rfl).symm.trans hf) |>.symm
      obtain rfl : fn = Tryz.f8 := (Option.some.inj (Tryz.func8.symm.trans hfn)).symm
      exact ⟨by kernel_rfl, fun j t ht => by
        rw [Tryz.params8] at ht
        have hall : (Tryz.f8.params.toList.all fun u => !Tryz.prog.wantsStandIn u) = true := by kernel_rfl
        rw [Tryz.params8] at hall
        have hm := Array.mem_of_getElem? ht
        exact (show Tryz.prog.wantsStandIn t = false by simpa using List.all_eq_true.1 hall t (by simpa using hm))⟩)
    (by kernel_rfl)
#print axioms tied
end Go.Proofs.YtmokjaddbmcopaaGreatDoor.driveEnds
namespace Go.Proofs.YtmokjaddbmcopaaGreatDoor
/-- The card, under a short name, for the claim. -/
theorem driveEnds_holds : Rows.DriveEndsCardSaid := driveEnds.tied
end Go.Proofs.YtmokjaddbmcopaaGreatDoor
