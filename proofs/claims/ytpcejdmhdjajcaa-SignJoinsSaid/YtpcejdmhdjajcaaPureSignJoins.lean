/- Proved: what the printed function of the law SignJoins answers is true, for all arguments within the row's own bounds: over numbers and lists alone. No further conditions. -/
import Derived.Test.YtpcejdmhdjajcaaPx8
namespace Go.Proofs.Ytpcejdmhdjajcaa.Pure
open Go.RowKit Go.Proofs.Ytpcejdmhdjajcaa.P Go.Proofs.Ytpcejdmhdjajcaa.G Go.Proofs.YtpcejdmhdjajcaaW.PrintWords Go.Proofs.YtpcejdmhdjajcaaW.PrintLast Go.Proofs.YtpcejdmhdjajcaaW.PrintMore
set_option linter.unusedVariables false
set_option linter.unusedSimpArgs false
theorem awake : flaillaw03_awake.f = some true := by decide +kernel
theorem keep (c : Int) : 0 ≤ c → c ≤ 255 → letterI c = false → lowU (UInt8.ofNat c.toNat) = UInt8.ofNat c.toNat := fun h0 h1 => byte_all (p := fun c => letterI c = false → lowU (UInt8.ofNat c.toNat) = UInt8.ofNat c.toNat) (by decide +kernel) h0 h1
theorem loop (a b : ByteArray) (ha : a.size ≤ 300) (hb : b.size ≤ 300) (d : Nat) : ∀ (k i : Nat), i + d = a.size → d < k → flaillaw03_SignJoins.l0 k a b true (lowS (a ++ b)) (i : Int) = some true := by
  have sz : (lowS (a ++ b)).size = a.size + b.size := by rw [size_lowS, ByteArray.size_append]
  induction d with
  | zero =>
    intro k i hi hk
    obtain ⟨K, rfl⟩ : ∃ m, k = m + 1 := ⟨k - 1, by omega⟩
    rw [flaillaw03_SignJoins.l0, if_neg (by omega), if_pos rfl, if_pos (by omega), sign_Lower.f, if_pos (by omega), Option.bind_some, sign_Begins_o.f, if_pos ⟨by simp; omega, by simp [lb_bs, bs_lb, toList_lb, lb_append, length_lb, size_bs, lb_mk, low_length, low_append, low_low, size_lowS, lb_lowS]; omega⟩]
    simp [lb_bs, bs_lb, toList_lb, lb_append, length_lb, size_bs, lb_mk, low_length, low_append, low_low, size_lowS, lb_lowS, begL, low]
    rw [List.take_of_length_le (by simp [lb_bs, bs_lb, toList_lb, lb_append, length_lb, size_bs, lb_mk, low_length, low_append, low_low, size_lowS, lb_lowS])]
    exact ⟨by omega, rfl⟩
  | succ d ih =>
    intro k i hi hk
    obtain ⟨K, rfl⟩ : ∃ m, k = m + 1 := ⟨k - 1, by omega⟩
    have hr := bt_range a (i : Int)
    rw [flaillaw03_SignJoins.l0, if_pos (by omega), if_pos (by omega), sign_Letter_o.f, if_pos hr, Option.bind_some, w64 (by omega) (by omega)]
    have := ih K (i + 1) (by omega) (by omega)
    rw [show ((i + 1 : Nat) : Int) = (i : Int) + 1 by omega] at this
    rw [this]
    by_cases hl : letterI (bt a i) = true
    · rw [if_pos hl]
    · rw [if_neg hl, if_pos (by omega), if_pos]
      have h := keep _ hr.1 hr.2 (by simpa using hl)
      rw [bt_lb, bt_lb] at *
      simp only [Int.toNat_natCast] at *
      unfold at_ at *
      have hi' : i < (lb a).length := by simp [lb_bs, bs_lb, toList_lb, lb_append, length_lb, size_bs, lb_mk, low_length, low_append, low_low, size_lowS, lb_lowS]; omega
      simp only [lb_bs, bs_lb, toList_lb, lb_append, length_lb, size_bs, lb_mk, low_length, low_append, low_low, size_lowS, lb_lowS, low, List.getD_eq_getElem?_getD, List.getElem?_map, List.getElem?_append_left hi', List.getElem?_eq_getElem hi', Option.map_some, Option.getD_some, Int.toNat_natCast, UInt8.ofNat_toNat] at *
      rw [h]
theorem SignJoins : flaillaw03_SignJoins.Pure := by
  intro a0 a1 h0 h1
  refine ⟨a0.size + 3, ?_⟩
  unfold flaillaw03_SignJoins.f
  rw [awake, Option.bind_some]
  by_cases c1 : (a0.size : Int) > 300
  · rw [if_pos c1]; rfl
  rw [if_neg c1]
  by_cases c2 : 300 < (a1.size : Int)
  · rw [decide_eq_true c2]; rfl
  rw [decide_eq_false c2, flaillaw03_SignJoins.j0, if_neg (by simp), if_pos (by omega)]
  have sz : (a0 ++ a1).size = a0.size + a1.size := by rw [ByteArray.size_append]
  have e1 : lowS (a0 ++ a1) = lowS a0 ++ lowS a1 := lb_inj (by simp [lb_bs, bs_lb, toList_lb, lb_append, length_lb, size_bs, lb_mk, low_length, low_append, low_low, size_lowS, lb_lowS])
  rw [sign_Lower.f, if_pos (by omega), Option.bind_some, sign_Lower.f, if_pos (by omega), Option.bind_some, sign_Lower.f, if_pos (by omega), Option.bind_some, if_pos (by simp only [size_lowS]; omega), e1, if_pos rfl, w64 (by omega) (by omega), ← e1]
  rw [show (((lowS (a0 ++ a1)).size : Int) != (a0.size : Int) + (a1.size : Int)) = false by simp [size_lowS, sz]]
  rw [flaillaw03_SignJoins.j1, if_neg (by simp)]
  exact loop a0 a1 (by omega) (by omega) a0.size _ 0 (by omega) (by omega)
end Go.Proofs.Ytpcejdmhdjajcaa.Pure
