/- Proved: what the printed function of the law NumberHex answers is true, for all arguments within the row's own bounds: over numbers and lists alone. No further conditions. -/
import Derived.Test.YtpcejdmhdjajcaaPx19
import Derived.Test.YtpcejdmhdjajcaaGM
namespace Go.Proofs.Ytpcejdmhdjajcaa.Pure
open Go.RowKit Go.Proofs.Ytpcejdmhdjajcaa.P Go.Proofs.Ytpcejdmhdjajcaa.G Go.Proofs.YtpcejdmhdjajcaaW.PrintWords Go.Proofs.YtpcejdmhdjajcaaW.PrintLast Go.Proofs.YtpcejdmhdjajcaaW.PrintMore
set_option linter.unusedVariables false
set_option linter.unusedSimpArgs false
theorem awake : flaillaw04_awake.f = some true := by decide +kernel
def hx (d : Nat) : UInt8 := if d < 10 then UInt8.ofNat (48 + d) else UInt8.ofNat (87 + d)
def hX (d : Nat) : UInt8 := if d < 10 then UInt8.ofNat (48 + d) else UInt8.ofNat (55 + d)
theorem hx_val (d : Nat) (h : d < 16) : hexI (hx d).toNat = d := by
  have : ∀ d : Fin 16, hexI (hx d.val).toNat = d.val := by decide
  exact this ⟨d, h⟩
theorem hX_val (d : Nat) (h : d < 16) : hexI (hX d).toNat = d := by
  have : ∀ d : Fin 16, hexI (hX d.val).toNat = d.val := by decide
  exact this ⟨d, h⟩
abbrev D : ByteArray := ⟨#[48, 49, 50, 51, 52, 53, 54, 55, 56, 57, 97, 98, 99, 100, 101, 102]⟩
abbrev L : ByteArray := ⟨#[48, 49, 50, 51, 52, 53, 54, 55, 56, 57, 65, 66, 67, 68, 69, 70]⟩
theorem cutD (d : Nat) (h : d < 16) : D.extract d (d + 1) = bs [hx d] := by
  have : ∀ d : Fin 16, lb (D.extract d.val (d.val + 1)) = [hx d.val] := by decide +kernel
  exact lb_inj (by rw [this ⟨d, h⟩, lb_bs])
theorem cutL (d : Nat) (h : d < 16) : L.extract d (d + 1) = bs [hX d] := by
  have : ∀ d : Fin 16, lb (L.extract d.val (d.val + 1)) = [hX d.val] := by decide +kernel
  exact lb_inj (by rw [this ⟨d, h⟩, lb_bs])
theorem step (K n i d : Nat) (hn : n < 4294967296) (hi : i ≤ 28) (hd : d = n / 2 ^ i % 16) (x6 x7 : List UInt8) (h6 : x6.length ≤ 20) (h7 : x7.length ≤ 20) :
    flaillaw04_NumberHex.l0 (K + 1) (n : Int) true D L (bs x6) (bs x7) (i : Int) = flaillaw04_NumberHex.l0 K (n : Int) true D L (bs (x6 ++ [hx d])) (bs (x7 ++ [hX d])) ((i : Int) - 4) := by
  have hq := Nat.div_le_self n (2 ^ i)
  have hs : shr .u32 (n : Int) (i : Int) = ((n / 2 ^ i : Nat) : Int) := by
    unfold shr
    rw [Int.toNat_natCast, Nat.min_eq_left (show i ≤ IntKind.u32.bits by show i ≤ 32; omega)]
    rw [Int.natCast_ediv, Int.natCast_pow]; rfl
  generalize n / 2 ^ i = q at hd hq hs
  have hd16 : d < 16 := by omega
  have e1 : Go.bits .and .u32 (shr .u32 (n : Int) (i : Int)) 15 = (d : Int) := by
    rw [hs, u32_and15 (q : Int) (by omega) (by omega), hd]; rfl
  rw [flaillaw04_NumberHex.l0, e1, if_pos (by omega), if_pos (by omega), if_pos (by omega), Int.emod_eq_of_lt (by omega) (by omega), if_pos (by omega), if_pos (by show (d : Int) + 1 ≤ 16; omega)]
  rw [show ((d : Int) + 1).toNat = d + 1 by omega, Int.toNat_natCast, cutD d hd16, cutL d hd16, if_pos (by simp [lb_bs, bs_lb, toList_lb, lb_append, length_lb, size_bs, lb_mk, low_length, low_append, low_low, size_lowS, lb_lowS]; omega), if_pos (by show (d : Int) + 1 ≤ 16; omega), if_pos (by simp [lb_bs, bs_lb, toList_lb, lb_append, length_lb, size_bs, lb_mk, low_length, low_append, low_low, size_lowS, lb_lowS]; omega), append_bs, append_bs, w64 (by omega) (by omega)]
theorem ok16 (f : Nat → UInt8) (hf : ∀ d, d < 16 → hexI (f d).toNat = d) (l : List Nat) (h : ∀ d ∈ l, d < 16) : okDig 16 (l.map f) := by
  intro c hc
  obtain ⟨d, hd, rfl⟩ := List.mem_map.1 hc
  rw [hf d (h d hd)]
  have := h d hd; omega
theorem ev16 (f : Nat → UInt8) (hf : ∀ d, d < 16 → hexI (f d).toNat = d) (l : List Nat) (h : ∀ d ∈ l, d < 16) : ∀ a, evalGo 16 (l.map f) a = l.foldl (fun a d => a * 16 + d) a := by
  induction l with
  | nil => intro a; rfl
  | cons d l ih =>
    intro a
    simp only [List.map_cons, evalGo, List.foldl_cons]
    rw [hf d (h d (by simp)), Int.toNat_natCast]
    exact ih (fun x hx => h x (by simp [hx])) _
theorem NumberHex : flaillaw04_NumberHex.Pure := by
  intro a0 h
  obtain ⟨h0, h1⟩ := wf_u32 h
  obtain ⟨n, rfl⟩ := Int.eq_ofNat_of_zero_le h0
  have hn : n < 4294967296 := by omega
  refine ⟨9, ?_⟩
  rw [flaillaw04_NumberHex.f, awake, Option.bind_some, nil_bs]
  have e28 := step 8 n 28 _ hn (by omega) rfl [] [] (by simp) (by simp)
  have e24 := step 7 n 24 _ hn (by omega) rfl ([] ++ [hx (n / 2 ^ 28 % 16)]) ([] ++ [hX (n / 2 ^ 28 % 16)]) (by simp) (by simp)
  have e20 := step 6 n 20 _ hn (by omega) rfl ([] ++ [hx (n / 2 ^ 28 % 16)] ++ [hx (n / 2 ^ 24 % 16)]) ([] ++ [hX (n / 2 ^ 28 % 16)] ++ [hX (n / 2 ^ 24 % 16)]) (by simp) (by simp)
  have e16 := step 5 n 16 _ hn (by omega) rfl ([] ++ [hx (n / 2 ^ 28 % 16)] ++ [hx (n / 2 ^ 24 % 16)] ++ [hx (n / 2 ^ 20 % 16)]) ([] ++ [hX (n / 2 ^ 28 % 16)] ++ [hX (n / 2 ^ 24 % 16)] ++ [hX (n / 2 ^ 20 % 16)]) (by simp) (by simp)
  have e12 := step 4 n 12 _ hn (by omega) rfl ([] ++ [hx (n / 2 ^ 28 % 16)] ++ [hx (n / 2 ^ 24 % 16)] ++ [hx (n / 2 ^ 20 % 16)] ++ [hx (n / 2 ^ 16 % 16)]) ([] ++ [hX (n / 2 ^ 28 % 16)] ++ [hX (n / 2 ^ 24 % 16)] ++ [hX (n / 2 ^ 20 % 16)] ++ [hX (n / 2 ^ 16 % 16)]) (by simp) (by simp)
  have e8 := step 3 n 8 _ hn (by omega) rfl ([] ++ [hx (n / 2 ^ 28 % 16)] ++ [hx (n / 2 ^ 24 % 16)] ++ [hx (n / 2 ^ 20 % 16)] ++ [hx (n / 2 ^ 16 % 16)] ++ [hx (n / 2 ^ 12 % 16)]) ([] ++ [hX (n / 2 ^ 28 % 16)] ++ [hX (n / 2 ^ 24 % 16)] ++ [hX (n / 2 ^ 20 % 16)] ++ [hX (n / 2 ^ 16 % 16)] ++ [hX (n / 2 ^ 12 % 16)]) (by simp) (by simp)
  have e4 := step 2 n 4 _ hn (by omega) rfl ([] ++ [hx (n / 2 ^ 28 % 16)] ++ [hx (n / 2 ^ 24 % 16)] ++ [hx (n / 2 ^ 20 % 16)] ++ [hx (n / 2 ^ 16 % 16)] ++ [hx (n / 2 ^ 12 % 16)] ++ [hx (n / 2 ^ 8 % 16)]) ([] ++ [hX (n / 2 ^ 28 % 16)] ++ [hX (n / 2 ^ 24 % 16)] ++ [hX (n / 2 ^ 20 % 16)] ++ [hX (n / 2 ^ 16 % 16)] ++ [hX (n / 2 ^ 12 % 16)] ++ [hX (n / 2 ^ 8 % 16)]) (by simp) (by simp)
  have e0 := step 1 n 0 _ hn (by omega) rfl ([] ++ [hx (n / 2 ^ 28 % 16)] ++ [hx (n / 2 ^ 24 % 16)] ++ [hx (n / 2 ^ 20 % 16)] ++ [hx (n / 2 ^ 16 % 16)] ++ [hx (n / 2 ^ 12 % 16)] ++ [hx (n / 2 ^ 8 % 16)] ++ [hx (n / 2 ^ 4 % 16)]) ([] ++ [hX (n / 2 ^ 28 % 16)] ++ [hX (n / 2 ^ 24 % 16)] ++ [hX (n / 2 ^ 20 % 16)] ++ [hX (n / 2 ^ 16 % 16)] ++ [hX (n / 2 ^ 12 % 16)] ++ [hX (n / 2 ^ 8 % 16)] ++ [hX (n / 2 ^ 4 % 16)]) (by simp) (by simp)
  refine e28.trans (e24.trans (e20.trans (e16.trans (e12.trans (e8.trans (e4.trans (e0.trans ?_)))))))
  clear e28 e24 e20 e16 e12 e8 e4 e0
  let ds : List Nat := [n / 2 ^ 28 % 16, n / 2 ^ 24 % 16, n / 2 ^ 20 % 16, n / 2 ^ 16 % 16, n / 2 ^ 12 % 16, n / 2 ^ 8 % 16, n / 2 ^ 4 % 16, n / 2 ^ 0 % 16]
  have hds : ∀ d ∈ ds, d < 16 := by
    intro d hd
    simp only [ds, List.mem_cons, List.not_mem_nil, or_false] at hd
    omega
  have hev : ds.foldl (fun a d => a * 16 + d) 0 = n := by
    simp only [ds, List.foldl_cons, List.foldl_nil]; omega
  have hlen : ds.length = 8 := rfl
  show flaillaw04_NumberHex.l0 1 (n : Int) true D L (bs (ds.map hx)) (bs (ds.map hX)) ((0 : Int) - 4) = some true
  clear_value ds
  have l1 : (ds.map hx).length = 8 := by simp [hlen]
  have l2 : (ds.map hX).length = 8 := by simp [hlen]
  have n1 : ds.map hx ≠ [] := by intro h; rw [h] at l1; simp at l1
  have n2 : ds.map hX ≠ [] := by intro h; rw [h] at l2; simp at l2
  have o1 := ok16 hx hx_val ds hds
  have o2 := ok16 hX hX_val ds hds
  have v1 := ev16 hx hx_val ds hds 0
  have v2 := ev16 hX hX_val ds hds 0
  rw [hev] at v1 v2
  have hdl := decL_len n
  have hdl2 : (decL n).length ≤ 4294967296 := by omega
  have r1 : numL (lb (((⟨#[35, 120]⟩ : ByteArray) ++ bs (ds.map hx)) ++ (⟨#[59]⟩ : ByteArray))) 0 = (fixS ((min n 1114112 : Nat) : Int), 11, true) := by
    have e : lb (((⟨#[35, 120]⟩ : ByteArray) ++ bs (ds.map hx)) ++ (⟨#[59]⟩ : ByteArray)) = [] ++ (35 :: 120 :: (ds.map hx ++ [59])) := by simp [lb_bs, bs_lb, toList_lb, lb_append, length_lb, size_bs, lb_mk, low_length, low_append, low_low, size_lowS, lb_lowS]
    rw [e]
    refine (numL_hex 120 (.inl rfl) [] (ds.map hx) [59] o1 n1 (by simp; decide)).trans ?_
    rw [v1, l1]; rfl
  have r2 : numL (lb ((⟨#[35, 88]⟩ : ByteArray) ++ bs (ds.map hX))) 0 = (fixS ((min n 1114112 : Nat) : Int), 10, true) := by
    have e : lb ((⟨#[35, 88]⟩ : ByteArray) ++ bs (ds.map hX)) = [] ++ (35 :: 88 :: (ds.map hX ++ [])) := by simp [lb_bs, bs_lb, toList_lb, lb_append, length_lb, size_bs, lb_mk, low_length, low_append, low_low, size_lowS, lb_lowS]
    rw [e]
    refine (numL_hex 88 (.inr rfl) [] (ds.map hX) [] o2 n2 (by simp)).trans ?_
    rw [v2, l2]; rfl
  have r3 : numL (lb ((⟨#[35]⟩ : ByteArray) ++ bs (decL n))) 0 = (fixS ((min n 1114112 : Nat) : Int), ((1 + (decL n).length : Nat) : Int), true) := by
    have e : lb ((⟨#[35]⟩ : ByteArray) ++ bs (decL n)) = [] ++ (35 :: (decL n ++ [])) := by simp [lb_bs, bs_lb, toList_lb, lb_append, length_lb, size_bs, lb_mk, low_length, low_append, low_low, size_lowS, lb_lowS]
    rw [e]
    refine (numL_ten [] (decL n) [] (decL_ok n) (decL_ne n) (by simp)).trans ?_
    rw [decL_eval]; simp
  have w1 : valL 16 (ds.map hx) = ((min n 1114112 : Nat) : Int) := by rw [valL_eval 16 (by omega) _ o1 n1, show (16 : Int).toNat = 16 from rfl, v1]
  have w2 : valL 10 (decL n) = ((min n 1114112 : Nat) : Int) := by rw [valL_eval 10 (by omega) _ (decL_ok n) (decL_ne n), show (10 : Int).toNat = 10 from rfl, decL_eval]
  have sz : ∀ (p : ByteArray) (l : List UInt8), (p ++ bs l).size = p.size + l.length := by intro p l; rw [ByteArray.size_append, size_bs]
  have z1 : (⟨#[35, 120]⟩ : ByteArray).size = 2 := rfl
  have z2 : (⟨#[35, 88]⟩ : ByteArray).size = 2 := rfl
  have z3 : (⟨#[35]⟩ : ByteArray).size = 1 := rfl
  have z4 : (⟨#[59]⟩ : ByteArray).size = 1 := rfl
  have dec : flailref01_Decimal_o.f (wrap64 (n : Int)) = some (bs (decL n)) := by
    rw [w64 (by omega) (by omega), flailref01_Decimal_o.f, if_pos ⟨by omega, by omega⟩, Int.toNat_natCast]
  rw [flaillaw04_NumberHex.l0, if_neg (by omega), if_pos (by rw [size_bs]; omega), if_pos (by rw [sz]; omega), number_Read_o.f, if_pos ⟨by rw [ByteArray.size_append, sz]; omega, by omega, by omega⟩, Option.bind_some, r1, if_pos (by rw [size_bs]; omega), number_Read_o.f, if_pos ⟨by rw [sz]; omega, by omega, by omega⟩, Option.bind_some, r2, dec, Option.bind_some, if_pos (by rw [size_bs]; omega), number_Read_o.f, if_pos ⟨by rw [sz]; omega, by omega, by omega⟩, Option.bind_some, r3]
  simp only [if_true]
  rw [number_Value.f, if_pos (by rw [size_bs]; omega), Option.bind_some, Option.bind_some, number_Value.f, if_pos (by rw [size_bs]; omega), Option.bind_some]
  simp only [if_true, Bool.false_eq_true, if_false, lb_bs, w1, w2, beq_self_eq_true]
end Go.Proofs.Ytpcejdmhdjajcaa.Pure
