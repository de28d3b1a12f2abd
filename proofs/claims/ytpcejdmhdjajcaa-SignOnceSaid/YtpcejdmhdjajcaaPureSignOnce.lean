/- Proved: what the printed function of the law SignOnce answers is true, for all arguments within the row's own bounds: over numbers and lists alone. No further conditions. -/
import Derived.Test.YtpcejdmhdjajcaaPx6
namespace Go.Proofs.Ytpcejdmhdjajcaa.Pure
open Go.RowKit Go.Proofs.Ytpcejdmhdjajcaa.P Go.Proofs.Ytpcejdmhdjajcaa.G Go.Proofs.YtpcejdmhdjajcaaW.PrintWords Go.Proofs.YtpcejdmhdjajcaaW.PrintLast Go.Proofs.YtpcejdmhdjajcaaW.PrintMore
set_option linter.unusedVariables false
set_option linter.unusedSimpArgs false
theorem awake : flaillaw03_awake.f = some true := by decide +kernel
theorem SignOnce : flaillaw03_SignOnce.Pure := by
  intro a0 a1 a2 h0 h1 h2
  obtain ⟨h3, h4⟩ := wf_u16 h1
  obtain ⟨h5, h6⟩ := wf_u16 h2
  unfold flaillaw03_SignOnce.f
  rw [awake, Option.bind_some]
  by_cases c1 : (a0.size : Int) > 300
  · rw [if_pos c1]
  rw [if_neg c1, w64 (x := (a0.size : Int) + 1) (by omega) (by omega)]
  obtain ⟨k, hk2, hk⟩ := modk a1 ((a0.size : Int) + 1) h3 (by omega) (by omega) (by omega)
  rw [hk, w64 (x := (a0.size : Int) - k) (by omega) (by omega), w64 (x := (a0.size : Int) - k + 1) (by omega) (by omega)]
  obtain ⟨m, hm2, hm⟩ := modk a2 ((a0.size : Int) - k + 1) h5 (by omega) (by omega) (by omega)
  rw [hm, w64 (x := (k : Int) + m) (by omega) (by omega)]
  have s1 : (lowS a0).size = a0.size := size_lowS a0
  have e1 : lowS (lowS a0) = lowS a0 := lb_inj (by simp [lb_bs, bs_lb, toList_lb, lb_append, length_lb, size_bs, lb_mk, low_length, low_append, low_low, size_lowS, lb_lowS])
  have e2 : ((k : Int) + (m : Int)).toNat - k = m := by omega
  have e3 : ∀ a : List UInt8, a.length = a0.size → ((a.drop k).take m).length = m := by intro a ha; simp; omega
  have e5 : k + m ≤ a0.size := by omega
  rw [if_neg (by omega), if_neg (by omega), sign_Lower.f, if_pos (by omega), Option.bind_some, s1, if_pos rfl, if_pos rfl, sign_Lower.f, if_pos (by omega), Option.bind_some, e1, if_pos rfl, if_pos (by omega), if_pos (by omega), if_pos (by omega)]
  rw [sign_Begins_o.f, if_pos ⟨by omega, by simp; omega⟩, Option.bind_some, if_pos, sign_Begins_o.f, if_pos ⟨by omega, by simp; omega⟩, Option.bind_some, if_pos, if_pos (by omega), if_pos (by simp; omega), sign_Begins_o.f, if_pos ⟨by omega, by rw [ByteArray.size_append, show (⟨#[97]⟩ : ByteArray).size = 1 from rfl]; simp; omega⟩, Option.bind_some]
  · unfold begL
    rw [decide_eq_false]; rfl
    simp [lb_bs, bs_lb, toList_lb, lb_append, length_lb, size_bs, lb_mk, low_length, low_append, low_low, size_lowS, lb_lowS, lb_extract]; omega
  · unfold begL
    simp [lb_bs, bs_lb, toList_lb, lb_append, length_lb, size_bs, lb_mk, low_length, low_append, low_low, size_lowS, lb_lowS, lb_extract, e2]
    refine ⟨by omega, ?_⟩
    rw [Nat.min_eq_left (by omega)]
    simp only [low_take, low_drop, low_low]
  · unfold begL
    simp [lb_bs, bs_lb, toList_lb, lb_append, length_lb, size_bs, lb_mk, low_length, low_append, low_low, size_lowS, lb_lowS, lb_extract, e2]
    refine ⟨by omega, ?_⟩
    rw [Nat.min_eq_left (by omega)]
    simp only [low_take, low_drop]
end Go.Proofs.Ytpcejdmhdjajcaa.Pure
