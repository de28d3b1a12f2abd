-- pruned2
/- Printed by a program of this session over the kit's print.py: functions of the Go program told as Lean functions, each with the proof that its call answers so. No conditions. -/
import Derived.Test.YtnohggejjlelhaaGreatDoorPx0
import Derived.Test.YtnohggejjlelhaaGreatDoorPx4
import Derived.Test.YtnohggejjlelhaaGreatDoorPx6
import Derived.Test.YtnohggejjlelhaaGreatDoorPx8
import Derived.Test.YtnohggejjlelhaaGreatDoorPx9
namespace Go.Proofs.YtnohggejjlelhaaGreatDoor.P
open Go.RowKit Go.Proofs.YtnohggejjlelhaaGreatDoor.G Go.Proofs.YtnohggejjlelhaaGreatDoorW.PrintWords Go.Proofs.YtnohggejjlelhaaGreatDoorW.PrintLast Go.Proofs.YtnohggejjlelhaaGreatDoorW.PrintMore
attribute [local go_sem high] G.str_leq G.str_gtr
attribute [local go_sem] max2_int min2_int max_two min_two max_three min_three max_four min_four   -- for this text's walks alone
set_option linter.unusedVariables false
set_option linter.unusedSimpArgs false
noncomputable section

/-! ### names_number: function 93 -/
def mz16 (n : Nat) (i : Value) : Nat := n - (intOf i).toNat
theorem mz16_step (n k : Nat) (x : Int) (h : k < n) (hx : x = ((k + 1 : Nat) : Int)) : mz16 n (.int .i64 x) < mz16 n (.int .i64 (k : Int)) := by
  subst hx
  simp only [mz16, intOf, Int.toNat_natCast]
  omega
def pw (k : Nat) : Int := [1, 16, 256, 4096, 65536, 1048576, 16777216, 268435456, 4294967296].getD k 0
theorem pw_step (k : Nat) (h : k ≤ 7) : pw k ≤ 268435456 ∧ pw (k + 1) = 16 * pw k := by
  have := (by decide : ∀ i : Fin 8, pw i ≤ 268435456 ∧ pw (i + 1) = 16 * pw i) ⟨k, by omega⟩
  exact this
theorem lower_hex {c : Int} (h0 : 0 ≤ c) (h1 : c ≤ 255) : 0 ≤ hexI c → ¬ (48 ≤ c ∧ c ≤ 57) → 97 ≤ Go.bits .or .u8 c 32 ∧ Go.bits .or .u8 c 32 ≤ 122 ∧ IntKind.u8.wrap (IntKind.u8.wrap (Go.bits .or .u8 c 32 - 97) + 10) = hexI c :=
  byte_all (p := fun c => 0 ≤ hexI c → ¬ (48 ≤ c ∧ c ≤ 57) → 97 ≤ Go.bits .or .u8 c 32 ∧ Go.bits .or .u8 c 32 ≤ 122 ∧ IntKind.u8.wrap (IntKind.u8.wrap (Go.bits .or .u8 c 32 - 97) + 10) = hexI c) (by decide +kernel) h0 h1
set_option maxRecDepth 1000000 in
set_option maxHeartbeats 4000000 in
theorem parse16 (a0 : ByteArray) (h1 : 1 ≤ a0.size) (h8 : a0.size ≤ 8) (hx : ∀ c ∈ lb a0, 0 ≤ hexI c.toNat) (w : World) :
    Calls Tryz.prog 107 #[.string a0, .int .i64 16, .int .i64 32] w fun e w' => e = .returned (.tuple #[.int .u64 (hexN (lb a0) 0), .nilIface]) ∧ Below w.heap.size w w' := by
  have kb := fun W => print_bytes (P := Tryz.prog) 9 73 5 Tryz.underlying9 Tryz.underlying73 Tryz.underlying5 a0 W
  have he : a0.toList.isEmpty = false := by
    rw [toList_lb]
    cases h : lb a0 with
    | nil => rw [size_lb, h] at h1; simp at h1
    | cons _ _ => rfl
  have hb0 : Below w.heap.size w (Lib.bytesWorld w 5 a0) := bytes_below (Below.refl _ _) (Nat.le_refl _) 5 a0
  have hcell0 := fun j hj => Lib.bytesWorld_cell w 5 a0 j hj
  have HX := Lib.hid hx
  have HC := Lib.hid hcell0
  have HB := Lib.hid hb0
  clear hx hcell0 hb0
  go_enter Tryz.func107, Tryz.ntmps107
  go_wp2_with fail
  clear kb he
  go_loopw [12, 13, 101] (fun u n i wr => ∃ (k : Nat) (A : Int), k ≤ a0.size ∧ u = .bool false ∧ i = .int .i64 k ∧ n = .int .u64 A ∧ Hid (hexN (lb a0) 0 = hexN ((lb a0).drop k) A.toNat) ∧ Hid (0 ≤ A ∧ A < pw k) ∧ Drawn0 (Lib.bytesWorld w 5 a0) wr) (fun _ _ i _ => mz16 a0.size i)
  case atStart => exact ⟨0, 0, Nat.zero_le _, rfl, rfl, rfl, Lib.hid rfl, Lib.hid ⟨by decide, by decide⟩, Drawn0.refl _⟩
  case round =>
    obtain ⟨k, A, hk, rfl, rfl, rfl, hv, ha, hd⟩ := hrel
    by_cases hlt : k < a0.size
    · have c1b : decide ((k : Int) < (a0.size : Int)) = true := decide_eq_true (by omega)
      obtain ⟨c, hc⟩ : ∃ c : Int, bt a0 (k : Int) = c := ⟨_, rfl⟩
      have hcell : wr.cell? ⟨w.heap.size, k, none⟩ = some (.int .u8 c) := by
        obtain ⟨⟨nd, rfl⟩⟩ := hd
        rw [← hc]
        have h9 := HC.out k hlt
        have hj : k < a0.data.size := hlt
        show (Lib.bytesWorld w 5 a0).cell? ⟨w.heap.size, k, none⟩ = _
        refine h9.trans ?_
        simp [bt, hlt, List.getD]
        rfl
      have hcr : 0 ≤ c ∧ c ≤ 255 := by rw [← hc]; exact bt_range a0 k
      have hl : k < (lb a0).length := by rw [length_lb]; exact hlt
      have hce : (((lb a0)[k]'hl).toNat : Int) = c := by rw [← hc, bt_lb]; simp [at_, List.getD, hl]
      have hxc : 0 ≤ hexI c := by rw [← hce]; exact HX.out _ (List.getElem_mem hl)
      have hxr : hexI c ≤ 15 := (hexI_range c).2
      have hnext : hexN ((lb a0).drop k) A.toNat = hexN ((lb a0).drop (k + 1)) (A * 16 + hexI c).toNat := by
        have := ha.out
        rw [List.drop_eq_getElem_cons hl, hexN, hce]; congr 1; omega
      have hA : A < 268435456 := by
        have h7 := (pw_step k (by omega)).1
        have := ha.out; omega
      have hA1 : 0 ≤ A * 16 + hexI c ∧ A * 16 + hexI c < pw (k + 1) := by
        have := ha.out; have h7 := (pw_step k (by omega)).2; omega
      have e1 : decide ((1152921504606846976 : Int) ≤ A) = false := decide_eq_false (by omega)
      obtain ⟨B, hB⟩ : ∃ B, IntKind.u64.wrap (A * 16) = B := ⟨_, rfl⟩
      have hBv : B = A * 16 := by rw [← hB]; have := ha.out; simp [IntKind.wrap, IntKind.signed, IntKind.bits]; omega
      obtain ⟨C, hC⟩ : ∃ C, IntKind.u64.wrap (B + hexI c) = C := ⟨_, rfl⟩
      have hCv : C = A * 16 + hexI c := by rw [← hC, hBv]; have := ha.out; simp [IntKind.wrap, IntKind.signed, IntKind.bits]; omega
      have e2 : (c = 95) = False := eq_false (by intro e; rw [e] at hxc; exact absurd hxc (by decide))
      have e3 : decide (16 ≤ hexI c) = false := decide_eq_false (by omega)
      have e4 : decide (C < B) = false := decide_eq_false (by omega)
      have e5 : decide (4294967295 < C) = false := decide_eq_false (by omega)
      have HN := Lib.hid (hv.out.trans hnext)
      rw [← hCv] at HN hA1
      have HA1 := Lib.hid hA1
      have hkw : IntKind.i64.wrap ((k : Int) + 1) = ((k + 1 : Nat) : Int) := by simp [IntKind.wrap, IntKind.signed, IntKind.bits]; omega
      have HKW := Lib.hid hkw
      have hkw2 : wrap64 ((k : Int) + 1) = ((k + 1 : Nat) : Int) := by rw [w64 (by omega) (by omega)]; omega
      have HKW2 := Lib.hid hkw2
      clear hkw hkw2
      obtain ⟨D, hD⟩ : ∃ D, hexI c = D := ⟨_, rfl⟩
      have d4 : IntKind.u64.wrap D = D := by rw [← hD]; simp [IntKind.wrap, IntKind.signed, IntKind.bits]; omega
      by_cases h48 : 48 ≤ c ∧ c ≤ 57
      · have d1 : decide (48 ≤ c) = true := decide_eq_true h48.1
        have d2 : decide (c ≤ 57) = true := decide_eq_true h48.2
        have d3 : IntKind.u8.wrap (c - 48) = hexI c := by simp [IntKind.wrap, IntKind.signed, IntKind.bits, hexI, h48]; omega
        rw [hD] at d3 hC e3
        clear h48 hv ha hk HX h1 h8 hc hcr hce hxc hxr hnext hA hA1 hBv hCv hD HC
        go_wp2
        go_roundw
        case rel => (exact ⟨k + 1, C, by omega, rfl, by rw [HKW2.out], by with_reducible rfl, HN, HA1, hd⟩)
        case measure => exact mz16_step _ _ _ hlt HKW2.out
      · obtain ⟨l1, l2, l3⟩ := lower_hex hcr.1 hcr.2 hxc h48
        obtain ⟨L, hL⟩ : ∃ L, Go.bits .or .u8 c 32 = L := ⟨_, rfl⟩
        rw [hL] at l1 l2 l3
        have HL := Lib.hid hL
        have hc48 : 48 ≤ c := by
          rcases Int.lt_or_le c 48 with h | h
          · exfalso; unfold hexI at hxc; rw [if_neg (by omega), if_neg (by omega), if_neg (by omega)] at hxc; omega
          · exact h
        have d1 : decide (48 ≤ c) = true := decide_eq_true hc48
        have d2 : decide (c ≤ 57) = false := decide_eq_false (by omega)
        have f1 : decide (97 ≤ L) = true := decide_eq_true l1
        have f2 : decide (L ≤ 122) = true := decide_eq_true l2
        have f3 : (L - 97 + 10) % 256 = hexI c := by
          have h := l3
          simp [IntKind.wrap, IntKind.signed, IntKind.bits] at h
          omega
        rw [hD] at f3 hC e3
        clear h48 hv ha hk HX h1 h8 hc hcr hce hxc hxr hnext hA hA1 hBv hCv hD HC l1 l2 l3 hL hc48
        go_wp2_with fail
        refine (Tryz.internal_strconv_lower c _).mono ?_
        rintro e w' ⟨rfl, rfl⟩
        rw [HL.out]
        go_wp2_with fail
        refine (Tryz.internal_strconv_lower c _).mono ?_
        rintro e w' ⟨rfl, rfl⟩
        rw [HL.out]
        go_wp2_with fail
        refine (Tryz.internal_strconv_lower c _).mono ?_
        rintro e w' ⟨rfl, rfl⟩
        rw [HL.out]
        go_wp2
        go_roundw
        case rel => (exact ⟨k + 1, C, by omega, rfl, by rw [HKW2.out], by with_reducible rfl, HN, HA1, hd⟩)
        case measure => exact mz16_step _ _ _ hlt HKW2.out
    · have c1b : decide ((k : Int) < (a0.size : Int)) = false := decide_eq_false (by omega)
      have hkk : k = a0.size := by omega
      have hv2 := hv.out
      rw [List.drop_of_length_le (by rw [length_lb]; omega)] at hv2
      have HV := Lib.hid hv2
      clear hv2
      go_wp2_with fail
      go_ret2 
      obtain ⟨⟨nd, rfl⟩⟩ := hd
      exact ⟨by rw [HV.out, hexN, Int.toNat_of_nonneg ha.out.1]; rfl, pw_below_drewN HB.out nd⟩
open F in
set_option maxRecDepth 100000 in
theorem names_number.hex (a0 : ByteArray) (h1 : 1 ≤ a0.size) (h8 : a0.size ≤ 8) (hx : ∀ c ∈ lb a0, 0 ≤ hexI c.toNat) (w : World) :
    Calls Tryz.prog 93 #[.string a0] w fun e w' => e = .returned (.float .f64 (fl (hexN (lb a0) 0))) ∧ Below w.heap.size w w' := by
  have HP := Lib.hid (fun w => parse16 a0 h1 h8 hx w)
  clear h1 h8 hx
  go_enter Tryz.func93, Tryz.ntmps93
  go_wp2_with (first | (go_at_call 107; refine (HP.out _).mono ?_; rintro e w1 ⟨rfl, hb⟩; have HB := Lib.hid hb; clear hb) | go_in)
  go_ret 
  exact ⟨rfl, HB.out⟩
open F in
set_option maxRecDepth 100000 in
theorem names_number.empty (w : World) (hG : GW w) :
    Calls Tryz.prog 93 #[.string ⟨#[]⟩] w fun e w' => e = .returned (.float .f64 (fl 0)) ∧ Below w.heap.size w w' := by
  obtain ⟨⟨ev, h1, h2⟩, _⟩ := hG
  have HC := Lib.hid (fun fn s h => Tryz.strconv_toError_syntax fn s 16 32 ev w h h1 h2)
  have K0 := Lib.hid (show (0 : Nat) = fl 0 by decide +kernel)
  clear h1 h2
  go_enter Tryz.func93, Tryz.ntmps93
  go_wp2_with (first | (go_at_call 107; refine (Tryz.internal_strconv_ParseUint_empty _ _ _).mono ?_; rintro e w1 ⟨rfl, rfl⟩) | (go_at_call 108; refine (HC.out _ _ (by decide)).mono ?_; rintro e w1 ⟨N, rfl, hn, hw, hb⟩; have HB := Lib.hid hb; clear hb hn hw) | go_in)
  go_ret 
  exact ⟨by rw [← K0.out]; rfl, HB.out⟩
open F in
theorem names_number.any (l : List UInt8) (h8 : l.length ≤ 8) (hx : ∀ c ∈ l, 0 ≤ hexI c.toNat) (w : World) (hG : GW w) :
    Calls Tryz.prog 93 #[.string (bs l)] w fun e w' => e = .returned (.float .f64 (fl (hexN l 0))) ∧ Below w.heap.size w w' := by
  cases l with
  | nil => exact names_number.empty w hG
  | cons c l =>
    have := names_number.hex (bs (c :: l)) (by rw [size_bs]; simp) (by rw [size_bs]; exact h8) (by rw [lb_bs]; exact hx) w
    rw [lb_bs] at this; exact this

/-! ### names_Value: function 74 -/
theorem strings_Cut.rest (v : List UInt8) (h : v.length ≤ 40) : strings_Cut.f (bs v) ⟨#[32]⟩ = some (bs (fstSp v), bs (sndSp v), decide ((32 : UInt8) ∈ v)) := by
  have e : lb (⟨#[32]⟩ : ByteArray) = [32] := rfl
  by_cases hm : (32 : UInt8) ∈ v
  · obtain ⟨hv, hn⟩ := sp_some v hm
    generalize fstSp v = a at hv hn ⊢
    generalize sndSp v = b at hv ⊢
    have d1 : v.take a.length = a := by rw [hv]; simp
    have d2 : v.drop (a.length + 1) = b := by rw [hv]; simp
    have hl : a.length + 1 + b.length = v.length := by rw [hv]; simp; omega
    have hi : Lib.indexByte v 32 = a.length := by rw [hv]; exact index_some _ _ _ hn
    have sz : (bs v).size = v.length := size_bs v
    rw [strings_Cut.f, stringslite_Cut.f, stringslite_Index.f, e]
    simp only [Option.bind_some]
    rw [lb_bs, hi, if_pos (by omega), if_pos (by omega), if_pos (by omega), show ((⟨#[32]⟩ : ByteArray).size : Int) = 1 from rfl, w64 (by omega) (by omega), if_pos (by omega), if_pos (by omega), Option.bind_some, extract_to _ _ _ (size_bs _), extract_bs]
    simp only [Int.toNat_natCast, Nat.sub_zero, List.drop_zero]
    rw [show ((a.length : Int) + 1).toNat = a.length + 1 by omega, d1, d2, decide_eq_true hm]
  · obtain ⟨h1, h2⟩ := sp_none v hm
    rw [strings_Cut.f, stringslite_Cut.f, stringslite_Index.f, e]
    simp only [Option.bind_some]
    rw [lb_bs, index_none _ _ hm, if_neg (by omega), Option.bind_some, h1, h2, decide_eq_false hm]
    rfl
theorem search_Line.names (a0 : ByteArray) : search_Line.f namesB a0 = some (answer (lookR rowsN (lb a0))) := by
  have h := search_Line.text rowsN rowsN_good (lb a0) rowsN_size
  rw [rowsN_text, bs_lb] at h; exact h
theorem search_Line.names_none (a0 : ByteArray) (hn : lookR rowsN (lb a0) = none) : search_Line.f namesB a0 = some (⟨#[]⟩, false) := by rw [search_Line.names, hn]; rfl
theorem search_Line.names_some (a0 : ByteArray) (v : List UInt8) (hv : lookR rowsN (lb a0) = some v) : search_Line.f namesB a0 = some (bs v, true) := by rw [search_Line.names, hv]; rfl
open F in
set_option maxRecDepth 100000 in
theorem names_Value.none_ (a0 : ByteArray) (w : World) (hn : lookR rowsN (lb a0) = none) :
    Calls Tryz.prog 74 #[.string a0] w fun e w' => e = .returned (.tuple #[.complex .f64 (fl 0) (fl 0), .bool false]) ∧ Below w.heap.size w w' := by
  have K0 := Lib.hid (show (0 : Nat) = fl 0 by decide +kernel)
  have HL := Lib.hid (search_Line.names_none a0 hn)
  clear hn
  go_enter Tryz.func74, Tryz.ntmps74
  have fold_ := big74
  conv at fold_ => lhs; whnf
  rw [fold_]
  clear fold_
  go_wp2_with (go_at_call 92; refine (search_Line.calls _ _ _ _ _ HL.out).mono ?_; rintro e w1 ⟨rfl, ⟨nd, rfl⟩⟩)
  go_ret2 
  exact ⟨by rw [← K0.out]; rfl, pw_below_drewN (Below.refl _ _) _⟩
open F in
set_option maxRecDepth 100000 in
theorem names_Value.some_ (a0 : ByteArray) (v : List UInt8) (w : World) (hG : GW w) (hv : lookR rowsN (lb a0) = some v) :
    Calls Tryz.prog 74 #[.string a0] w fun e w' => e = .returned (.tuple #[.complex .f64 (fl (hexN (fstSp v) 0)) (fl (hexN (sndSp v) 0)), .bool true]) ∧ Below w.heap.size w w' := by
  have hm := lookR_mem _ _ _ hv
  have hr := rowsN_row _ hm
  have hp := rowsN_good.plain _ hm
  have HL := Lib.hid (search_Line.names_some a0 v hv)
  obtain ⟨b, hb⟩ : ∃ b, decide ((32 : UInt8) ∈ v) = b := ⟨_, rfl⟩
  have HC := Lib.hid (show strings_Cut.f (bs v) ⟨#[32]⟩ = some (bs (fstSp v), bs (sndSp v), b) by rw [← hb]; exact strings_Cut.rest v hp.r40)
  have HA := Lib.hid (fun w h => names_number.any (fstSp v) hr.a8 hr.ah w h)
  have HB := Lib.hid (fun w h => names_number.any (sndSp v) hr.b8 hr.bh w h)
  have HG := Lib.hid hG
  clear hb hm hr hp hv hG
  go_enter Tryz.func74, Tryz.ntmps74
  have fold_ := big74
  conv at fold_ => lhs; whnf
  rw [fold_]
  clear fold_
  go_wp2_with (first | (go_at_call 92; refine (search_Line.calls _ _ _ _ _ HL.out).mono ?_; rintro e w1 ⟨rfl, ⟨nd, rfl⟩⟩) | (go_at_call 36; refine (strings_Cut.calls _ _ _ _ _ _ HC.out).mono ?_; rintro e w1 ⟨rfl, ⟨nd2, rfl⟩⟩))
  refine gmono (HA.out _) (HG.out.below (by repeat (first | exact Below.refl _ _ | apply pw_below_drewN))) ?_
  rintro e w2 ⟨rfl, hb2⟩
  have h2 : Below w.heap.size w w2 := Below.trans (by repeat (first | exact Below.refl _ _ | apply pw_below_drewN)) hb2
  have H2 := Lib.hid h2
  clear h2 hb2
  go_wp2_with fail
  refine gmono (HB.out _) (HG.out.below (by repeat (exact H2.out))) ?_
  rintro e w3 ⟨rfl, hb3⟩
  have h3 : Below w.heap.size w w3 := Below.trans (by repeat (exact H2.out)) (hb3.mono (by have := H2.out.size; simpa using this))
  have H3 := Lib.hid h3
  clear h3 hb3
  go_wp2
  go_ret2 
  exact ⟨rfl, H3.out⟩
open F in
theorem names_Value.calls (a0 : ByteArray) (w : World) (hG : GW w) :
    Calls Tryz.prog 74 #[.string a0] w fun e w' => e = .returned (.tuple #[.complex .f64 (fl (nameP (lb a0)).1) (fl (nameP (lb a0)).2), .bool (isName (lb a0))]) ∧ Below w.heap.size w w' := by
  cases h : lookR rowsN (lb a0) with
  | none =>
    have := names_Value.none_ a0 w h
    simpa [nameP, nameV, isName, h] using this
  | some v =>
    have := names_Value.some_ a0 v w hG h
    simpa [nameP, nameV, isName, h] using this

/-! ### stringslite_HasSuffix: function 81 -/
def stringslite_HasSuffix.f (a0 : ByteArray) (a1 : ByteArray) : Option (Bool) := if (a0.size : Int) ≥ (a1.size : Int) then (if 0 ≤ (wrap64 ((a0.size : Int) - (a1.size : Int))) then (if (wrap64 ((a0.size : Int) - (a1.size : Int))) ≤ (a0.size : Int) then (some ((a0.extract ((wrap64 ((a0.size : Int) - (a1.size : Int))) : Int).toNat a0.size).toList == a1.toList)) else (none)) else (none)) else (some false)
set_option maxHeartbeats 8000000 in
set_option maxRecDepth 100000 in
theorem stringslite_HasSuffix.calls (a0 : ByteArray) (a1 : ByteArray) (r : Bool) (w : World) (h : stringslite_HasSuffix.f a0 a1 = some r) :
    Calls Tryz.prog 81 #[.string a0, .string a1] w fun e w' => e = .returned (.bool r) ∧ Drawn0 w w' := by
  have H : (if (a0.size : Int) ≥ (a1.size : Int) then (if 0 ≤ (wrap64 ((a0.size : Int) - (a1.size : Int))) then (if (wrap64 ((a0.size : Int) - (a1.size : Int))) ≤ (a0.size : Int) then (some ((a0.extract ((wrap64 ((a0.size : Int) - (a1.size : Int))) : Int).toNat a0.size).toList == a1.toList)) else (none)) else (none)) else (some false)) = some r := h
  clear h
  by_cases c3 : (a0.size : Int) ≥ (a1.size : Int)
  · rw [if_pos c3] at H
    have c3b0 : decide ((a1.size : Int) ≤ (a0.size : Int)) = true := decide_eq_true c3
    have c3b1 : decide (a1.size ≤ a0.size) = true := decide_eq_true (Int.ofNat_le.mp c3)
    clear c3
    obtain ⟨ji4, hji4⟩ : ∃ j_ : Int, (wrap64 ((a0.size : Int) - (a1.size : Int))) = j_ := ⟨_, rfl⟩
    replace H : (if 0 ≤ (ji4) then (if (ji4) ≤ (a0.size : Int) then (some ((a0.extract ((ji4) : Int).toNat a0.size).toList == a1.toList)) else (none)) else (none)) = some r := by first | (rw [hji4] at H; exact H) | (simp only [hji4] at H ⊢; exact H)
    have hji4w : (IntKind.i64.wrap ((a0.size : Int) - (a1.size : Int))) = ji4 := (i64_w _).trans hji4
    by_cases c5 : 0 ≤ (ji4)
    · rw [if_pos c5] at H
      have c5b0 := eq_true c5
      have c5b1 : decide (0 ≤ (ji4)) = true := decide_eq_true c5
      clear c5
      by_cases c6 : (ji4) ≤ (a0.size : Int)
      · rw [if_pos c6] at H
        have c6b0 := eq_true c6
        have c6b1 : decide ((ji4) ≤ (a0.size : Int)) = true := decide_eq_true c6
        clear c6
        obtain rfl := Option.some.inj H
        go_enter Tryz.func81, Tryz.ntmps81
        go_wp2
        all_goals ((go_ret; exact ⟨by rfl, by repeat (exact Drawn0.refl _)⟩))
      · rw [if_neg c6] at H
        exact absurd H (by simp)
    · rw [if_neg c5] at H
      exact absurd H (by simp)
  · rw [if_neg c3] at H
    have c3b0 : decide ((a1.size : Int) ≤ (a0.size : Int)) = false := decide_eq_false c3
    have c3b1 : decide (a1.size ≤ a0.size) = false := decide_eq_false (fun h => c3 (Int.ofNat_le.mpr h))
    clear c3
    obtain rfl := Option.some.inj H
    go_enter Tryz.func81, Tryz.ntmps81
    go_wp2
    all_goals ((go_ret; exact ⟨by rfl, by repeat (exact Drawn0.refl _)⟩))

/-! ### strings_HasSuffix: function 94 -/
/-! ### names_Short: function 75 -/
open F in
set_option maxRecDepth 100000 in
theorem names_Short.calls (a0 : ByteArray) (w : World) (hG : GW w) (hs : a0.size ≤ 1099511627776) :
    Calls Tryz.prog 75 #[.string a0] w fun e w' => e = .returned (.bool (isShort (lb a0))) ∧ Below w.heap.size w w' := by
  have HG := Lib.hid hG
  have HS := Lib.hid (fun w => Tryz.strings_HasSuffix a0 ⟨#[59]⟩ w (by omega))
  have HI := Lib.hid (show isShort (lb a0) = (isName (lb a0) && !Lib.hasSuffix (lb a0) [59]) from rfl)
  clear hG hs
  cases hn : isName (lb a0)
  · rw [hn] at HI
    have HV := Lib.hid (fun w h => names_Value.calls a0 w h)
    rw [hn] at HV
    clear hn
    go_enter Tryz.func75, Tryz.ntmps75
    go_wp2_with fail
    refine gmono (HV.out _) HG.out ?_
    rintro e w2 ⟨rfl, hb2⟩
    have H2 := Lib.hid hb2
    clear hb2
    go_wp2
    go_ret 
    exact ⟨by rw [HI.out]; rfl, H2.out⟩
  · rw [hn] at HI
    have HV := Lib.hid (fun w h => names_Value.calls a0 w h)
    rw [hn] at HV
    clear hn
    go_enter Tryz.func75, Tryz.ntmps75
    go_wp2_with fail
    refine gmono (HV.out _) HG.out ?_
    rintro e w2 ⟨rfl, hb2⟩
    have H2 := Lib.hid hb2
    clear hb2
    go_wp2_with fail
    refine (HS.out _).mono ?_
    rintro e w3 ⟨rfl, rfl⟩
    go_wp2
    go_ret 
    exact ⟨by rw [HI.out]; rfl, H2.out⟩

/-! ### sign_Word: function 95 -/
def sign_Word.f (a0 : Int) : Option (Bool) := (sign_Letter_o.f a0).bind fun t135 => (if t135 = true then (some true) else ((sign_Digit_o.f a0).bind fun t136 => (some t136)))
set_option maxHeartbeats 8000000 in
set_option maxRecDepth 100000 in
theorem sign_Word.calls (a0 : Int) (r : Bool) (w : World) (h : sign_Word.f a0 = some r) :
    Calls Tryz.prog 95 #[.int .u8 a0] w fun e w' => e = .returned (.bool r) ∧ Drawn0 w w' := by
  have H : ((sign_Letter_o.f a0).bind fun t135 => (if t135 = true then (some true) else ((sign_Digit_o.f a0).bind fun t136 => (some t136)))) = some r := h
  clear h
  replace H := Option.bind_eq_some_iff.mp H
  obtain ⟨t135, A20, H⟩ := H
  replace H : (if t135 = true then (some true) else ((sign_Digit_o.f a0).bind fun t136 => (some t136))) = some r := H
  have A2 := Aside0.mk A20
  clear A20
  by_cases c3 : t135 = true
  · subst c3
    have H1 : (some true) = some r := by rw [if_pos rfl] at H; exact H
    clear H
    have H := H1
    clear H1
    obtain rfl := Option.some.inj H
    go_enter Tryz.func95, Tryz.ntmps95
    go_wp2_with (((with_reducible refine gate_callee (f := 33) rfl ?_); refine goesL_ (some 4) rfl rfl Tryz.func33 (by kernel_rfl) rfl #[.int .u8 a0] rfl (by (try simp only [List.map_toArray, List.map_cons, List.map_nil]); rfl) ?_; (with_reducible refine (sign_Letter_o.calls a0 true _ A2.out).mono ?_); rintro e w' ⟨rfl, ⟨nd, rfl⟩⟩; refine ⟨_, rfl, ?_⟩))
    all_goals ((go_ret; exact ⟨by rfl, by repeat (first | exact Drawn0.refl _ | apply Drawn0.step)⟩))
  · replace c3 := Bool.eq_false_iff.mpr c3
    subst c3
    have H1 : ((sign_Digit_o.f a0).bind fun t136 => (some t136)) = some r := by rw [if_neg (show ¬ (false = true) by decide)] at H; exact H
    clear H
    have H := H1
    clear H1
    replace H := Option.bind_eq_some_iff.mp H
    obtain ⟨t136, A40, H⟩ := H
    replace H : (some t136) = some r := H
    have A4 := Aside0.mk A40
    clear A40
    obtain rfl := Option.some.inj H
    go_enter Tryz.func95, Tryz.ntmps95
    go_wp2_with (first | ((with_reducible refine gate_callee (f := 33) rfl ?_); refine goesL_ (some 4) rfl rfl Tryz.func33 (by kernel_rfl) rfl #[.int .u8 a0] rfl (by (try simp only [List.map_toArray, List.map_cons, List.map_nil]); rfl) ?_; (with_reducible refine (sign_Letter_o.calls a0 false _ A2.out).mono ?_); rintro e w' ⟨rfl, ⟨nd, rfl⟩⟩; refine ⟨_, rfl, ?_⟩) | (go_at_call 87; (with_reducible refine (sign_Digit_o.calls a0 t136 _ A4.out).mono ?_); rintro e w' ⟨rfl, ⟨nd, rfl⟩⟩))
    all_goals ((go_ret; exact ⟨by rfl, by repeat (first | exact Drawn0.refl _ | apply Drawn0.step)⟩))

/-! sign_Word, told over -/
def sign_Word_o.f (a0 : Int) : Option Bool := if 0 ≤ a0 ∧ a0 ≤ 255 then some (wordI a0) else none
theorem sign_Word_o.sound (a0 : Int) (r : Bool) (h : sign_Word_o.f a0 = some r) : sign_Word.f a0 = some r := by
  unfold sign_Word_o.f at h
  split at h
  · rename_i hb; rw [← h]; exact byte_all (p := fun c => sign_Word.f c = some (wordI c)) (by decide +kernel) hb.1 hb.2
  · cases h
set_option maxRecDepth 100000 in
theorem sign_Word_o.calls (a0 : Int) (r : Bool) (w : World) (h : sign_Word_o.f a0 = some r) :
    Calls Tryz.prog 95 #[.int .u8 a0] w fun e w' => e = .returned (.bool r) ∧ Drawn0 w w' := by
  have hk := sign_Word_o.sound _ _ h
  exact sign_Word.calls a0 r w hk

end
end Go.Proofs.YtnohggejjlelhaaGreatDoor.P
