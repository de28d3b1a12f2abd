/- Proved: what the printed function of the law NumberZeros answers is true, for all arguments within the row's own bounds: over numbers and lists alone. No further conditions. -/
import Derived.Test.YtpcejdmhdjajcaaPx16
import Derived.Test.YtpcejdmhdjajcaaGM
namespace Go.Proofs.Ytpcejdmhdjajcaa.Pure
open Go.RowKit Go.Proofs.Ytpcejdmhdjajcaa.P Go.Proofs.Ytpcejdmhdjajcaa.G Go.Proofs.YtpcejdmhdjajcaaW.PrintWords Go.Proofs.YtpcejdmhdjajcaaW.PrintLast Go.Proofs.YtpcejdmhdjajcaaW.PrintMore
set_option linter.unusedVariables false
set_option linter.unusedSimpArgs false
theorem awake : flaillaw04_awake.f = some true := by decide +kernel
def dsOf (L : List Int) : List UInt8 := L.map fun x => UInt8.ofNat (48 + x.toNat % 10)
theorem dsOf_ok (L : List Int) : okDig 10 (dsOf L) := by
  intro c hc
  obtain ⟨x, _, rfl⟩ := List.mem_map.1 hc
  rw [dig_hex _ (by omega)]; omega
theorem zeros_ok (Z : Nat) (L : List Int) : okDig 10 (List.replicate Z 48 ++ dsOf L) := by
  intro c hc
  rw [List.mem_append] at hc
  rcases hc with hc | hc
  · rw [List.eq_of_mem_replicate hc]; decide
  · exact dsOf_ok L c hc
theorem big (L : List Int) (hL : ∀ x ∈ L, 0 ≤ x) (h7 : 7 < L.length) (h : ¬ Int.tmod (rd L 0) 10 = 0) : 1114112 ≤ evalGo 10 (dsOf L) 0 := by
  cases L with
  | nil => simp at h7
  | cons x L =>
    have hx : 0 ≤ x := hL x (by simp)
    have e : Int.tmod (rd (x :: L) 0) 10 = x % 10 := by show Int.tmod x 10 = _; exact Int.tmod_eq_emod_of_nonneg hx
    rw [e] at h
    show 1114112 ≤ evalGo 10 (UInt8.ofNat (48 + x.toNat % 10) :: dsOf L) 0
    simp only [evalGo]
    rw [dig_hex _ (by omega)]
    have h1 := evalGo_ge 10 (by omega) (dsOf L) (0 * 10 + (((x.toNat % 10 : Nat) : Int)).toNat)
    have h2 : 10 ^ 7 ≤ 10 ^ (dsOf L).length := Nat.pow_le_pow_right (by omega) (by simp [dsOf] at h7 ⊢; omega)
    have h3 : 1 * 10 ^ (dsOf L).length ≤ (0 * 10 + (((x.toNat % 10 : Nat) : Int)).toNat) * 10 ^ (dsOf L).length := Nat.mul_le_mul_right _ (by omega)
    omega
theorem last (L : List Int) (hL : ∀ x ∈ L, 0 ≤ x) (hn : 0 < L.length) (h60 : L.length ≤ 60) (Z : Nat) (hZ : Z ≤ 255) (d : Nat) : ∀ k j, j + d = Z → d < k →
    flaillaw04_NumberZeros.l1 k L (Z : Int) true (bs (dsOf L)) (bs (List.replicate j 48 ++ dsOf L)) (j : Int) = some true := by
  have hlen : (dsOf L).length = L.length := by simp [dsOf]
  have hne : dsOf L ≠ [] := by intro h; rw [h] at hlen; simp at hlen; omega
  induction d with
  | succ d ih =>
    intro k j hj hk
    obtain ⟨K, rfl⟩ : ∃ m, k = m + 1 := ⟨k - 1, by omega⟩
    have := ih K (j + 1) (by omega) (by omega)
    rw [flaillaw04_NumberZeros.l1, w64 (x := (Z : Int)) (by omega) (by omega), if_pos (by omega), if_pos (by simp [lb_bs, bs_lb, toList_lb, lb_append, length_lb, size_bs, lb_mk, low_length, low_append, low_low, size_lowS, lb_lowS]; omega), w64 (by omega) (by omega)]
    rw [show ((⟨#[48]⟩ : ByteArray) ++ bs (List.replicate j 48 ++ dsOf L)) = bs (List.replicate (j + 1) 48 ++ dsOf L) from lb_inj (by simp [lb_bs, bs_lb, toList_lb, lb_append, length_lb, size_bs, lb_mk, low_length, low_append, low_low, size_lowS, lb_lowS, List.replicate_succ]), show (j : Int) + 1 = ((j + 1 : Nat) : Int) by omega]
    exact this
  | zero =>
    intro k j hj hk
    obtain ⟨K, rfl⟩ : ∃ m, k = m + 1 := ⟨k - 1, by omega⟩
    obtain rfl : j = Z := by omega
    have s1 : ∀ l : List UInt8, (((⟨#[35]⟩ : ByteArray) ++ bs l) ++ (⟨#[59]⟩ : ByteArray)).size = l.length + 2 := by
      intro l; rw [ByteArray.size_append, ByteArray.size_append, size_bs]; show 1 + l.length + 1 = _; omega
    have s2 : ∀ l : List UInt8, ((⟨#[35]⟩ : ByteArray) ++ bs l).size = l.length + 1 := by
      intro l; rw [ByteArray.size_append, size_bs]; show 1 + l.length = _; omega
    have rd1 : ∀ l : List UInt8, okDig 10 l → l ≠ [] → numL (lb (((⟨#[35]⟩ : ByteArray) ++ bs l) ++ (⟨#[59]⟩ : ByteArray))) 0 = (fixS ((min (evalGo 10 l 0) 1114112 : Nat) : Int), ((l.length + 2 : Nat) : Int), true) := by
      intro l h1 h2
      have e : lb (((⟨#[35]⟩ : ByteArray) ++ bs l) ++ (⟨#[59]⟩ : ByteArray)) = [] ++ (35 :: (l ++ [59])) := by simp [lb_bs, bs_lb, toList_lb, lb_append, length_lb, size_bs, lb_mk, low_length, low_append, low_low, size_lowS, lb_lowS]
      rw [e]
      refine (numL_ten [] l [59] h1 h2 (by simp; decide)).trans ?_
      simp; omega
    have hzl : (List.replicate j (48 : UInt8) ++ dsOf L).length = j + L.length := by simp [hlen]
    have v1 : valL 10 (dsOf L) = ((min (evalGo 10 (dsOf L) 0) 1114112 : Nat) : Int) := valL_eval 10 (by omega) _ (dsOf_ok L) hne
    have v2 : valL 10 (List.replicate j 48 ++ dsOf L) = ((min (evalGo 10 (dsOf L) 0) 1114112 : Nat) : Int) := by
      rw [valL_eval 10 (by omega) _ (zeros_ok j L) (by simp [hne]), show (10 : Int).toNat = 10 from rfl, evalGo_zeros]
    have hbig := big L hL
    have nv1 : number_Value.f (bs (dsOf L)) false = some ((min (evalGo 10 (dsOf L) 0) 1114112 : Nat) : Int) := by unfold number_Value.f; rw [if_pos (by rw [size_bs]; omega), lb_bs]; exact congrArg some v1
    have nv2 : number_Value.f (bs (List.replicate j 48 ++ dsOf L)) false = some ((min (evalGo 10 (dsOf L) 0) 1114112 : Nat) : Int) := by unfold number_Value.f; rw [if_pos (by rw [size_bs]; omega), lb_bs]; exact congrArg some v2
    have r1 := rd1 (dsOf L) (dsOf_ok L) hne
    have r2 := rd1 (List.replicate j 48 ++ dsOf L) (zeros_ok j L) (by simp [hne])
    rw [evalGo_zeros] at r2
    rw [flaillaw04_NumberZeros.l1, w64 (x := (j : Int)) (by omega) (by omega), if_neg (by omega), if_pos (by rw [size_bs]; omega), if_pos (by rw [s2]; omega), number_Read_o.f, if_pos ⟨by rw [s1]; omega, by omega, by omega⟩, Option.bind_some, r1, if_pos (by rw [size_bs]; omega), if_pos (by rw [s2]; omega), number_Read_o.f, if_pos ⟨by rw [s1]; omega, by omega, by omega⟩, Option.bind_some, r2, nv1, Option.bind_some]
    generalize evalGo 10 (dsOf L) 0 = E at *
    have p1 : ((dsOf L).length + 2 : Nat) = ((dsOf L).length : Int) + 2 := by omega
    simp only [if_true, nv2, size_bs, Option.bind_some]
    rw [w64 (x := ((dsOf L).length : Int) + 2) (by omega) (by omega), w64 (x := ((List.replicate j (48 : UInt8) ++ dsOf L).length : Int) + 2) (by omega) (by omega)]
    rw [if_pos (show (((dsOf L).length + 2 : Nat) : Int) = ((dsOf L).length : Int) + 2 by omega), if_pos (show (((List.replicate j (48 : UInt8) ++ dsOf L).length + 2 : Nat) : Int) = ((List.replicate j (48 : UInt8) ++ dsOf L).length : Int) + 2 by omega)]
    rw [if_pos (show (((min E 1114112 : Nat)) : Int) ≥ 0 by omega), decide_eq_true (show (((min E 1114112 : Nat)) : Int) ≤ 1114112 by omega)]
    by_cases h7 : ((dsOf L).length : Int) > 7
    · rw [if_pos h7, if_pos (by omega)]
      by_cases h0 : Int.tmod (rd L 0) 10 = 0
      · rw [if_pos h0]
      · have := hbig (by omega) h0
        rw [if_neg h0, if_pos (by omega), show min E 1114112 = 1114112 by omega]
        decide +kernel
    · rw [if_neg h7]
theorem first (L : List Int) (hL : ∀ x ∈ L, 0 ≤ x ∧ x ≤ 255) (hn : 0 < L.length) (h60 : L.length ≤ 60) (Z : Nat) (hZ : Z ≤ 255) (d : Nat) : ∀ k i, i + d = L.length → d + Z + 1 < k →
    flaillaw04_NumberZeros.l0 k L (Z : Int) true (bs (dsOf (L.take i))) (i : Int) = some true := by
  induction d with
  | zero =>
    intro k i hi hk
    obtain ⟨K, rfl⟩ : ∃ m, k = m + 1 := ⟨k - 1, by omega⟩
    rw [flaillaw04_NumberZeros.l0, if_neg (by omega), List.take_of_length_le (by omega)]
    exact last L (fun x hx => (hL x hx).1) hn h60 Z hZ Z K 0 (by omega) (by omega)
  | succ d ih =>
    intro k i hi hk
    obtain ⟨K, rfl⟩ : ∃ m, k = m + 1 := ⟨k - 1, by omega⟩
    have hlt : i < L.length := by omega
    have hx := hL L[i] (List.getElem_mem hlt)
    have er : rd L (i : Int) = L[i] := by simp [rd, List.getD_eq_getElem?_getD, List.getElem?_eq_getElem hlt]
    have := ih K (i + 1) (by omega) (by omega)
    have ey : strOfNums [(48 + Int.tmod (rd L (i : Int)) 10) % 256] = bs [UInt8.ofNat (48 + L[i].toNat % 10)] := by
      rw [er, Int.tmod_eq_emod_of_nonneg hx.1, nums1 _ (by omega) (by omega)]
      congr 3; omega
    rw [flaillaw04_NumberZeros.l0, if_pos (by omega), if_pos (by omega), Option.bind_some, ey, if_pos (by simp [lb_bs, bs_lb, toList_lb, lb_append, length_lb, size_bs, lb_mk, low_length, low_append, low_low, size_lowS, lb_lowS, dsOf]; omega), w64 (by omega) (by omega), append_bs]
    rw [show dsOf (L.take i) ++ [UInt8.ofNat (48 + L[i].toNat % 10)] = dsOf (L.take (i + 1)) by rw [List.take_succ_eq_append_getElem hlt]; unfold dsOf; rw [List.map_append]; rfl, show (i : Int) + 1 = ((i + 1 : Nat) : Int) by omega]
    exact this
theorem NumberZeros : flaillaw04_NumberZeros.Pure := by
  intro L a1 h0 h1 h2 h3
  obtain ⟨h4, h5⟩ := wf_u8 h3
  obtain ⟨Z, rfl⟩ := Int.eq_ofNat_of_zero_le h4
  refine ⟨L.length + Z + 3 + 1, ?_⟩
  rw [flaillaw04_NumberZeros.f, awake, Option.bind_some]
  by_cases c1 : (L.length : Int) > 60
  · rw [if_pos c1]; rfl
  rw [if_neg c1]
  by_cases c2 : (L.length : Int) = 0
  · rw [show ((L.length : Int) == 0) = true by simpa using c2]; rfl
  rw [show ((L.length : Int) == 0) = false by simpa using c2, flaillaw04_NumberZeros.j0, if_neg (by simp)]
  exact first L (fun x hx => wf_u8 (h2 x hx)) (by omega) (by omega) Z (by omega) L.length _ 0 (by omega) (by omega)
end Go.Proofs.Ytpcejdmhdjajcaa.Pure
