/- Printed by a program of this session over the kit's print.py: functions of the Go program told as Lean functions, each with the proof that its call answers so. No conditions. -/
import Derived.Test.YtpcpcimbkdogcaaDoorPx0
import Derived.Test.YtpcpcimbkdogcaaDoorPx3
import Derived.Test.YtpcpcimbkdogcaaDoorPx4
import Derived.Test.YtpcpcimbkdogcaaDoorPx5
import Derived.Test.YtpcpcimbkdogcaaDoorPx6
import Derived.Test.YtpcpcimbkdogcaaDoorPx9
import Derived.Test.YtpcpcimbkdogcaaDoorPx10
import Derived.Test.YtpcpcimbkdogcaaDoorPx11
namespace Go.Proofs.YtpcpcimbkdogcaaDoor.P
open Go.RowKit Go.Proofs.YtpcpcimbkdogcaaDoor.G Go.Proofs.YtpcpcimbkdogcaaDoorW.PrintWords Go.Proofs.YtpcpcimbkdogcaaDoorW.PrintLast Go.Proofs.YtpcpcimbkdogcaaDoorW.PrintMore
attribute [local go_sem high] G.str_leq G.str_gtr
attribute [local go_sem] max2_int min2_int max_two min_two max_three min_three max_four min_four   -- for this text's walks alone
set_option linter.unusedVariables false
set_option linter.unusedSimpArgs false
noncomputable section

/-! ### flailref01_Right: function 9 -/
/-- What is read of bytes, sign by sign, with so much fuel. -/
def rightR (K : Nat) : Nat → List Int → Bool
  | 0, _ => false
  | n + 1, l => if l.length = 0 then true else match flailref01_first.f K l with | some (m, true) => decide (0 < m ∧ m ≤ l.length) && rightR K n (l.drop m.toNat) | _ => false
def flailref01_Right.f (a0 : ByteArray) : Option Bool := if a0.size = 0 then some true else none
def lenOfR : Value → Nat
  | .slice _ n _ => n
  | _ => 0
theorem rightR_step {K n : Nat} {l : List Int} (h : rightR K n l = true) (hl : l.length ≠ 0) : ∃ n' m, n = n' + 1 ∧ flailref01_first.f K l = some (m, true) ∧ 0 < m ∧ m ≤ l.length ∧ rightR K n' (l.drop m.toNat) = true := by
  cases n with
  | zero => cases h
  | succ n =>
    rw [rightR, if_neg hl] at h
    cases e : flailref01_first.f K l with
    | none => rw [e] at h; cases h
    | some x =>
      obtain ⟨m, b⟩ := x
      rw [e] at h
      cases b with
      | false => cases h
      | true =>
        have h2 : (decide (0 < m ∧ m ≤ l.length) && rightR K n (l.drop m.toNat)) = true := h
        rw [Bool.and_eq_true, decide_eq_true_eq] at h2
        exact ⟨n, m, rfl, rfl, h2.1.1, h2.1.2, h2.2⟩
theorem strOf_bytes (s : ByteArray) : strOfNums (bytesOf s) = s := by rw [bytesOf_lb, strOfNums_map, bs_lb]
theorem le_fin (K : Nat) (many low high a b fr tt : Int) (hf : mx a low = fr) (ht : mn b high = tt) (hok : ¬ (55296 ≤ fr ∧ tt ≤ 57343)) (hle : fr ≤ tt) : flailref01_least.l1 (K + 1) many low high a b many = some (fr, tt) := by
  rw [flailref01_least.l1, if_neg (by omega), hf, ht]
  by_cases c : fr ≥ 55296
  · rw [if_pos c, if_neg (by omega), if_neg (by omega)]
  · rw [if_neg c, if_neg (by omega)]
theorem le_up (K : Nat) (many low high a b i j : Int) (hj : i + 1 = j) (hi : i < many) (ha : 0 ≤ a ∧ a ≤ 100000000) (hb : 0 ≤ b ∧ b ≤ 100000000) (h2 : 0 ≤ i ∧ i ≤ 10) : flailref01_least.l1 (K + 1) many low high a b i = flailref01_least.l1 K many low high (64 * a) (64 * b + 63) j := by
  rw [flailref01_least.l1, if_pos hi, show wrap64 (64 * a) = 64 * a from w64 (by omega) (by omega), show wrap64 (64 * b) = 64 * b from w64 (by omega) (by omega), show wrap64 (64 * b + 63) = 64 * b + 63 from w64 (by omega) (by omega), show wrap64 (i + 1) = i + 1 from w64 (by omega) (by omega), hj]
theorem le_tail (K : Nat) (l : List Int) (many low high n i j t m : Int) (hj : i + 1 = j) (hm : 64 * n + t = m) (hi0 : 0 ≤ i ∧ i ≤ 10) (hi : i < l.length) (ht : rd l i = 128 + t) (h0 : 0 ≤ t ∧ t < 64) (hn : 0 ≤ n ∧ n ≤ 100000000) : flailref01_least.l0 (K + 1) l many low high n i = flailref01_least.l0 K l many low high m j := by
  rw [flailref01_least.l0, if_pos hi, if_pos hi0.1, ht, if_neg (by omega), if_neg (by omega), show wrap64 (64 * n) = 64 * n from w64 (by omega) (by omega), show wrap64 (128 + t) = 128 + t from w64 (by omega) (by omega), show wrap64 (64 * n + (128 + t)) = 64 * n + (128 + t) from w64 (by omega) (by omega), show wrap64 (64 * n + (128 + t) - 128) = m from (w64 (by omega) (by omega)).trans (by omega), show wrap64 (i + 1) = i + 1 from w64 (by omega) (by omega), hj]
theorem le_end (K : Nat) (l : List Int) (many low high n i : Int) (hi : (l.length : Int) = i) : flailref01_least.l0 (K + 1) l many low high n i = flailref01_least.l1 K many low high n n i := by
  rw [flailref01_least.l0, if_neg (by omega), hi]
theorem le_head2 (K : Nat) (l : List Int) (q : Int) (hq : 0 ≤ q ∧ q < 32) (hl : 0 < l.length ∧ l.length ≤ 2) (hr : rd l 0 = 192 + q) : flailref01_least.f (K + 2) l = flailref01_least.l0 K l 2 128 2047 q 1 := by
  rw [flailref01_least.f, if_pos (by omega), hr, show wrap64 (192 + q) = 192 + q from w64 (by omega) (by omega), if_pos (by omega), decide_eq_true (by omega), flailref01_least.j0, if_pos rfl, flailref01_least.j2, if_neg (by omega), show wrap64 (192 + q - 192) = q from (w64 (by omega) (by omega)).trans (by omega)]
theorem le_head3 (K : Nat) (l : List Int) (q : Int) (hq : 0 ≤ q ∧ q < 16) (hl : 0 < l.length ∧ l.length ≤ 3) (hr : rd l 0 = 224 + q) : flailref01_least.f (K + 3) l = flailref01_least.l0 K l 3 2048 65535 q 1 := by
  rw [flailref01_least.f, if_pos (by omega), hr, show wrap64 (224 + q) = 224 + q from w64 (by omega) (by omega), if_pos (by omega), decide_eq_false (by omega), flailref01_least.j0, if_neg (by decide), if_pos (by omega), decide_eq_true (by omega), flailref01_least.j1, if_pos rfl, flailref01_least.j2, if_neg (by omega), show wrap64 (224 + q - 224) = q from (w64 (by omega) (by omega)).trans (by omega)]
theorem le_head4 (K : Nat) (l : List Int) (q : Int) (hq : 0 ≤ q ∧ q < 8) (hl : 0 < l.length ∧ l.length ≤ 4) (hr : rd l 0 = 240 + q) : flailref01_least.f (K + 3) l = flailref01_least.l0 K l 4 65536 1114111 q 1 := by
  rw [flailref01_least.f, if_pos (by omega), hr, show wrap64 (240 + q) = 240 + q from w64 (by omega) (by omega), if_pos (by omega), decide_eq_false (by omega), flailref01_least.j0, if_neg (by decide), if_pos (by omega), decide_eq_false (by omega), flailref01_least.j1, if_neg (by decide), if_pos (by omega), if_pos (by omega), flailref01_least.j2, if_neg (by omega), show wrap64 (240 + q - 240) = q from (w64 (by omega) (by omega)).trans (by omega)]
theorem first_go (K : Nat) (l : List Int) (n i j fr tt : Int) (hj : i + 1 = j) (h : flailref01_least.f K (l.take i.toNat) = some (fr, tt)) (h0 : 0 ≤ fr) (hne : fr ≠ tt) (hi : 1 ≤ i ∧ i ≤ 4) (hl : i ≤ l.length) : flailref01_first.l0 (K + 2) l n i = flailref01_first.l0 K l i j := by
  rw [flailref01_first.l0, if_pos hi.2, decide_eq_true hl, flailref01_first.j1, if_pos rfl, if_pos (by omega), if_pos hl, h, Option.bind_some]
  simp only []
  rw [if_neg (by omega), if_neg hne, show wrap64 (i + 1) = i + 1 from w64 (by omega) (by omega), hj]
theorem first_hit (K : Nat) (l : List Int) (n i m : Int) (h : flailref01_least.f K (l.take i.toNat) = some (m, m)) (h0 : 0 ≤ m) (hs : strOfNums (l.take i.toNat) = sgn m) (hi : 1 ≤ i ∧ i ≤ 4) (hl : i ≤ l.length) : flailref01_first.l0 (K + 2) l n i = some (i, true) := by
  rw [flailref01_first.l0, if_pos hi.2, decide_eq_true hl, flailref01_first.j1, if_pos rfl, if_pos (by omega), if_pos hl, h, Option.bind_some]
  simp only []
  rw [if_neg (by omega), if_pos trivial, flailref01_Sign_o.f, Option.bind_some, hs, if_pos rfl]
theorem first_f (K : Nat) (l : List Int) (hl : 0 < l.length) (h : 128 ≤ rd l 0) : flailref01_first.f K l = flailref01_first.l0 K l 0 1 := by
  rw [flailref01_first.f, if_pos (by omega), if_neg (by omega)]
theorem mx_ (a b c : Int) (h : (if a < b then b else a) = c) : mx a b = c := h
theorem mn_ (a b c : Int) (h : (if b < a then b else a) = c) : mn a b = c := h
theorem first1 (n : Int) (rest : List Int) (h : n < 128) : flailref01_first.f 20 (n :: rest) = some (1, true) := by
  rw [flailref01_first.f, if_pos (by rw [List.length_cons]; omega), show rd (n :: rest) 0 = n from rfl, if_pos h]
theorem first2 (q t : Int) (rest : List Int) (hq : 2 ≤ q ∧ q ≤ 31) (ht : 0 ≤ t ∧ t < 64) (hs : strOfNums [192 + q, 128 + t] = sgn (64 * q + t)) : flailref01_first.f 20 ((192 + q) :: (128 + t) :: rest) = some (2, true) := by
  have a1 : flailref01_least.f 18 [192 + q] = some (64 * q, 64 * q + 63) :=
    (le_head2 16 [192 + q] q (by omega) (by simp) rfl).trans ((le_end 15 [192 + q] 2 128 2047 q 1 rfl).trans ((le_up 14 2 128 2047 q q 1 2 rfl (by omega) (by omega) (by omega) (by omega)).trans (le_fin 13 2 128 2047 _ _ _ _ (mx_ _ _ _ (if_neg (by omega))) (mn_ _ _ _ (if_neg (by omega))) (by omega) (by omega))))
  have a2 : flailref01_least.f 16 [192 + q, 128 + t] = some (64 * q + t, 64 * q + t) :=
    (le_head2 14 [192 + q, 128 + t] q (by omega) (by simp) rfl).trans ((le_tail 13 [192 + q, 128 + t] 2 128 2047 q 1 2 t (64 * q + t) rfl rfl (by omega) (by simp) rfl ht (by omega)).trans ((le_end 12 [192 + q, 128 + t] 2 128 2047 (64 * q + t) 2 rfl).trans (le_fin 11 2 128 2047 _ _ _ _ (mx_ _ _ _ (if_neg (by omega))) (mn_ _ _ _ (if_neg (by omega))) (by omega) (by omega))))
  have l2 : (2 : Int) ≤ (((192 + q) :: (128 + t) :: rest).length : Int) := by rw [List.length_cons, List.length_cons]; omega
  rw [first_f 20 ((192 + q) :: (128 + t) :: rest) (by simp) (show 128 ≤ 192 + q by omega), first_go 18 ((192 + q) :: (128 + t) :: rest) 0 1 2 _ _ rfl a1 (by omega) (by omega) (by omega) (by omega)]
  exact first_hit 16 ((192 + q) :: (128 + t) :: rest) 1 2 (64 * q + t) a2 (by omega) hs (by omega) l2
theorem first3 (q s t : Int) (rest : List Int) (hq : 0 ≤ q ∧ q ≤ 15) (hs : 0 ≤ s ∧ s < 64) (ht : 0 ≤ t ∧ t < 64) (hlo : 2048 ≤ 64 * (64 * q + s) + t) (hsu : 64 * (64 * q + s) + t ≤ 55295 ∨ 57344 ≤ 64 * (64 * q + s) + t) (hx : strOfNums [224 + q, 128 + s, 128 + t] = sgn (64 * (64 * q + s) + t)) : flailref01_first.f 20 ((224 + q) :: (128 + s) :: (128 + t) :: rest) = some (3, true) := by
  obtain ⟨fr, hfr⟩ : ∃ fr, mx (64 * (64 * q)) 2048 = fr := ⟨_, rfl⟩
  obtain ⟨tt, htt⟩ : ∃ tt, mn (64 * (64 * q + 63) + 63) 65535 = tt := ⟨_, rfl⟩
  have f1 : fr = if 64 * (64 * q) < 2048 then 2048 else 64 * (64 * q) := hfr.symm
  have f2 : tt = if 65535 < 64 * (64 * q + 63) + 63 then 65535 else 64 * (64 * q + 63) + 63 := htt.symm
  have f3 : fr ≤ tt ∧ fr ≠ tt ∧ 0 ≤ fr ∧ ¬ (55296 ≤ fr ∧ tt ≤ 57343) := by split at f1 <;> split at f2 <;> omega
  have a1 : flailref01_least.f 18 [224 + q] = some (fr, tt) :=
    (le_head3 15 [224 + q] q (by omega) (by simp) rfl).trans ((le_end 14 [224 + q] 3 2048 65535 q 1 rfl).trans ((le_up 13 3 2048 65535 q q 1 2 rfl (by omega) (by omega) (by omega) (by omega)).trans ((le_up 12 3 2048 65535 (64 * q) (64 * q + 63) 2 3 rfl (by omega) (by omega) (by omega) (by omega)).trans (le_fin 11 3 2048 65535 _ _ _ _ hfr htt f3.2.2.2 f3.1))))
  have a2 : flailref01_least.f 16 [224 + q, 128 + s] = some (64 * (64 * q + s), 64 * (64 * q + s) + 63) :=
    (le_head3 13 [224 + q, 128 + s] q (by omega) (by simp) rfl).trans ((le_tail 12 [224 + q, 128 + s] 3 2048 65535 q 1 2 s (64 * q + s) rfl rfl (by omega) (by simp) rfl hs (by omega)).trans ((le_end 11 [224 + q, 128 + s] 3 2048 65535 (64 * q + s) 2 rfl).trans ((le_up 10 3 2048 65535 (64 * q + s) (64 * q + s) 2 3 rfl (by omega) (by omega) (by omega) (by omega)).trans (le_fin 9 3 2048 65535 _ _ _ _ (mx_ _ _ _ (if_neg (by omega))) (mn_ _ _ _ (if_neg (by omega))) (by omega) (by omega)))))
  have a3 : flailref01_least.f 14 [224 + q, 128 + s, 128 + t] = some (64 * (64 * q + s) + t, 64 * (64 * q + s) + t) :=
    (le_head3 11 [224 + q, 128 + s, 128 + t] q (by omega) (by simp) rfl).trans ((le_tail 10 [224 + q, 128 + s, 128 + t] 3 2048 65535 q 1 2 s (64 * q + s) rfl rfl (by omega) (by simp) rfl hs (by omega)).trans ((le_tail 9 [224 + q, 128 + s, 128 + t] 3 2048 65535 (64 * q + s) 2 3 t (64 * (64 * q + s) + t) rfl rfl (by omega) (by simp) rfl ht (by omega)).trans ((le_end 8 [224 + q, 128 + s, 128 + t] 3 2048 65535 (64 * (64 * q + s) + t) 3 rfl).trans (le_fin 7 3 2048 65535 _ _ _ _ (mx_ _ _ _ (if_neg (by omega))) (mn_ _ _ _ (if_neg (by omega))) (by omega) (by omega)))))
  have l3 : (3 : Int) ≤ (((224 + q) :: (128 + s) :: (128 + t) :: rest).length : Int) := by simp only [List.length_cons]; omega
  rw [first_f 20 ((224 + q) :: (128 + s) :: (128 + t) :: rest) (by simp) (show 128 ≤ 224 + q by omega), first_go 18 ((224 + q) :: (128 + s) :: (128 + t) :: rest) 0 1 2 _ _ rfl a1 f3.2.2.1 f3.2.1 (by omega) (by omega), first_go 16 ((224 + q) :: (128 + s) :: (128 + t) :: rest) 1 2 3 _ _ rfl a2 (by omega) (by omega) (by omega) (by omega)]
  exact first_hit 14 ((224 + q) :: (128 + s) :: (128 + t) :: rest) 2 3 _ a3 (by omega) hx (by omega) l3
theorem first4 (p q s t : Int) (rest : List Int) (hp : 0 ≤ p ∧ p ≤ 4) (hq : 0 ≤ q ∧ q < 64) (hs : 0 ≤ s ∧ s < 64) (ht : 0 ≤ t ∧ t < 64) (hlo : 65536 ≤ 64 * (64 * (64 * p + q) + s) + t) (hhi : 64 * (64 * (64 * p + q) + s) + t ≤ 1114111) (hx : strOfNums [240 + p, 128 + q, 128 + s, 128 + t] = sgn (64 * (64 * (64 * p + q) + s) + t)) : flailref01_first.f 20 ((240 + p) :: (128 + q) :: (128 + s) :: (128 + t) :: rest) = some (4, true) := by
  obtain ⟨fr, hfr⟩ : ∃ fr, mx (64 * (64 * (64 * p))) 65536 = fr := ⟨_, rfl⟩
  obtain ⟨tt, htt⟩ : ∃ tt, mn (64 * (64 * (64 * p + 63) + 63) + 63) 1114111 = tt := ⟨_, rfl⟩
  have f1 : fr = if 64 * (64 * (64 * p)) < 65536 then 65536 else 64 * (64 * (64 * p)) := hfr.symm
  have f2 : tt = if 1114111 < 64 * (64 * (64 * p + 63) + 63) + 63 then 1114111 else 64 * (64 * (64 * p + 63) + 63) + 63 := htt.symm
  have f3 : fr ≤ tt ∧ fr ≠ tt ∧ 0 ≤ fr ∧ ¬ (55296 ≤ fr ∧ tt ≤ 57343) := by split at f1 <;> split at f2 <;> omega
  have a1 : flailref01_least.f 18 [240 + p] = some (fr, tt) :=
    (le_head4 15 [240 + p] p (by omega) (by simp) rfl).trans ((le_end 14 [240 + p] 4 65536 1114111 p 1 rfl).trans ((le_up 13 4 65536 1114111 p p 1 2 rfl (by omega) (by omega) (by omega) (by omega)).trans ((le_up 12 4 65536 1114111 (64 * p) (64 * p + 63) 2 3 rfl (by omega) (by omega) (by omega) (by omega)).trans ((le_up 11 4 65536 1114111 (64 * (64 * p)) (64 * (64 * p + 63) + 63) 3 4 rfl (by omega) (by omega) (by omega) (by omega)).trans (le_fin 10 4 65536 1114111 _ _ _ _ hfr htt f3.2.2.2 f3.1)))))
  have a2 : flailref01_least.f 16 [240 + p, 128 + q] = some (64 * (64 * (64 * p + q)), 64 * (64 * (64 * p + q) + 63) + 63) :=
    (le_head4 13 [240 + p, 128 + q] p (by omega) (by simp) rfl).trans ((le_tail 12 [240 + p, 128 + q] 4 65536 1114111 p 1 2 q (64 * p + q) rfl rfl (by omega) (by simp) rfl hq (by omega)).trans ((le_end 11 [240 + p, 128 + q] 4 65536 1114111 (64 * p + q) 2 rfl).trans ((le_up 10 4 65536 1114111 (64 * p + q) (64 * p + q) 2 3 rfl (by omega) (by omega) (by omega) (by omega)).trans ((le_up 9 4 65536 1114111 (64 * (64 * p + q)) (64 * (64 * p + q) + 63) 3 4 rfl (by omega) (by omega) (by omega) (by omega)).trans (le_fin 8 4 65536 1114111 _ _ _ _ (mx_ _ _ _ (if_neg (by omega))) (mn_ _ _ _ (if_neg (by omega))) (by omega) (by omega))))))
  have a3 : flailref01_least.f 14 [240 + p, 128 + q, 128 + s] = some (64 * (64 * (64 * p + q) + s), 64 * (64 * (64 * p + q) + s) + 63) :=
    (le_head4 11 [240 + p, 128 + q, 128 + s] p (by omega) (by simp) rfl).trans ((le_tail 10 [240 + p, 128 + q, 128 + s] 4 65536 1114111 p 1 2 q (64 * p + q) rfl rfl (by omega) (by simp) rfl hq (by omega)).trans ((le_tail 9 [240 + p, 128 + q, 128 + s] 4 65536 1114111 (64 * p + q) 2 3 s (64 * (64 * p + q) + s) rfl rfl (by omega) (by simp) rfl hs (by omega)).trans ((le_end 8 [240 + p, 128 + q, 128 + s] 4 65536 1114111 (64 * (64 * p + q) + s) 3 rfl).trans ((le_up 7 4 65536 1114111 (64 * (64 * p + q) + s) (64 * (64 * p + q) + s) 3 4 rfl (by omega) (by omega) (by omega) (by omega)).trans (le_fin 6 4 65536 1114111 _ _ _ _ (mx_ _ _ _ (if_neg (by omega))) (mn_ _ _ _ (if_neg (by omega))) (by omega) (by omega))))))
  have a4 : flailref01_least.f 12 [240 + p, 128 + q, 128 + s, 128 + t] = some (64 * (64 * (64 * p + q) + s) + t, 64 * (64 * (64 * p + q) + s) + t) :=
    (le_head4 9 [240 + p, 128 + q, 128 + s, 128 + t] p (by omega) (by simp) rfl).trans ((le_tail 8 [240 + p, 128 + q, 128 + s, 128 + t] 4 65536 1114111 p 1 2 q (64 * p + q) rfl rfl (by omega) (by simp) rfl hq (by omega)).trans ((le_tail 7 [240 + p, 128 + q, 128 + s, 128 + t] 4 65536 1114111 (64 * p + q) 2 3 s (64 * (64 * p + q) + s) rfl rfl (by omega) (by simp) rfl hs (by omega)).trans ((le_tail 6 [240 + p, 128 + q, 128 + s, 128 + t] 4 65536 1114111 (64 * (64 * p + q) + s) 3 4 t (64 * (64 * (64 * p + q) + s) + t) rfl rfl (by omega) (by simp) rfl ht (by omega)).trans ((le_end 5 [240 + p, 128 + q, 128 + s, 128 + t] 4 65536 1114111 (64 * (64 * (64 * p + q) + s) + t) 4 rfl).trans (le_fin 4 4 65536 1114111 _ _ _ _ (mx_ _ _ _ (if_neg (by omega))) (mn_ _ _ _ (if_neg (by omega))) (by omega) (by omega))))))
  have l4 : (4 : Int) ≤ (((240 + p) :: (128 + q) :: (128 + s) :: (128 + t) :: rest).length : Int) := by simp only [List.length_cons]; omega
  rw [first_f 20 ((240 + p) :: (128 + q) :: (128 + s) :: (128 + t) :: rest) (by simp) (show 128 ≤ 240 + p by omega), first_go 18 ((240 + p) :: (128 + q) :: (128 + s) :: (128 + t) :: rest) 0 1 2 _ _ rfl a1 f3.2.2.1 f3.2.1 (by omega) (by omega), first_go 16 ((240 + p) :: (128 + q) :: (128 + s) :: (128 + t) :: rest) 1 2 3 _ _ rfl a2 (by omega) (by omega) (by omega) (by omega), first_go 14 ((240 + p) :: (128 + q) :: (128 + s) :: (128 + t) :: rest) 2 3 4 _ _ rfl a3 (by omega) (by omega) (by omega) (by omega)]
  exact first_hit 12 ((240 + p) :: (128 + q) :: (128 + s) :: (128 + t) :: rest) 3 4 _ a4 (by omega) hx (by omega) l4
theorem sgn_ints (n : Nat) (h1 : n ≤ 1114111) (h2 : n ≤ 55295 ∨ 57344 ≤ n) : bytesOf (sgn (n : Int)) = if n < 128 then [(n : Int)] else if n < 2048 then [192 + ((n / 64 : Nat) : Int), 128 + ((n % 64 : Nat) : Int)] else if n < 65536 then [224 + ((n / 4096 : Nat) : Int), 128 + ((n / 64 % 64 : Nat) : Int), 128 + ((n % 64 : Nat) : Int)] else [240 + ((n / 262144 : Nat) : Int), 128 + ((n / 4096 % 64 : Nat) : Int), 128 + ((n / 64 % 64 : Nat) : Int), 128 + ((n % 64 : Nat) : Int)] := by
  have hv : Utf8.valid (n : Int) = true := by simp [Utf8.valid]; omega
  have b : ∀ m : Nat, m < 256 → (((UInt8.ofNat m).toNat : Nat) : Int) = (m : Int) := fun m hm => by rw [UInt8.toNat_ofNat', Nat.mod_eq_of_lt hm]
  rw [bytesOf_lb]
  unfold sgn Utf8.encode
  rw [hv]
  simp only [if_true, Int.toNat_natCast]
  by_cases c1 : n < 128
  · rw [if_pos c1, if_pos c1]
    show [(((UInt8.ofNat (n)).toNat : Nat) : Int)] = _
    rw [b _ (by omega)]
  rw [if_neg c1, if_neg c1]
  by_cases c2 : n < 2048
  · rw [if_pos c2, if_pos c2]
    show [(((UInt8.ofNat (192 + n / 64)).toNat : Nat) : Int), (((UInt8.ofNat (128 + n % 64)).toNat : Nat) : Int)] = _
    rw [b _ (by omega), b _ (by omega)]; simp
  rw [if_neg c2, if_neg c2]
  by_cases c3 : n < 65536
  · rw [if_pos c3, if_pos c3]
    show [(((UInt8.ofNat (224 + n / 4096)).toNat : Nat) : Int), (((UInt8.ofNat (128 + n / 64 % 64)).toNat : Nat) : Int), (((UInt8.ofNat (128 + n % 64)).toNat : Nat) : Int)] = _
    rw [b _ (by omega), b _ (by omega), b _ (by omega)]; simp
  rw [if_neg c3, if_neg c3]
  show [(((UInt8.ofNat (240 + n / 262144)).toNat : Nat) : Int), (((UInt8.ofNat (128 + n / 4096 % 64)).toNat : Nat) : Int), (((UInt8.ofNat (128 + n / 64 % 64)).toNat : Nat) : Int), (((UInt8.ofNat (128 + n % 64)).toNat : Nat) : Int)] = _
  rw [b _ (by omega), b _ (by omega), b _ (by omega), b _ (by omega)]; simp
theorem first_sgn (n : Nat) (h1 : n ≤ 1114111) (h2 : n ≤ 55295 ∨ 57344 ≤ n) (rest : List Int) : flailref01_first.f 20 (bytesOf (sgn (n : Int)) ++ rest) = some (((bytesOf (sgn (n : Int))).length : Int), true) := by
  have hs := strOf_bytes (sgn (n : Int))
  have e := sgn_ints n h1 h2
  by_cases c1 : n < 128
  · rw [if_pos c1] at e
    rw [e]; exact first1 n rest (by omega)
  rw [if_neg c1] at e
  by_cases c2 : n < 2048
  · rw [if_pos c2] at e
    rw [e] at hs
    rw [e]
    exact first2 _ _ rest (by omega) (by omega) (hs.trans (congrArg sgn (by omega)))
  rw [if_neg c2] at e
  by_cases c3 : n < 65536
  · rw [if_pos c3] at e
    rw [e] at hs
    rw [e]
    exact first3 _ _ _ rest (by omega) (by omega) (by omega) (by omega) (by omega) (hs.trans (congrArg sgn (by omega)))
  rw [if_neg c3] at e
  rw [e] at hs
  rw [e]
  exact first4 _ _ _ _ rest (by omega) (by omega) (by omega) (by omega) (by omega) (by omega) (hs.trans (congrArg sgn (by omega)))
theorem bytesOf_app (s t : ByteArray) : bytesOf (s ++ t) = bytesOf s ++ bytesOf t := by rw [bytesOf_lb, bytesOf_lb, bytesOf_lb, lb_append, List.map_append]
theorem rightR_sgn (n : Nat) (h1 : n ≤ 1114111) (h2 : n ≤ 55295 ∨ 57344 ≤ n) (N : Nat) (rest : List Int) (h : rightR 20 N rest = true) : rightR 20 (N + 1) (bytesOf (sgn (n : Int)) ++ rest) = true := by
  have hz := sgn_size (n : Int)
  have hl : (bytesOf (sgn (n : Int))).length = (sgn (n : Int)).size := bytesOf_length _
  rw [rightR, if_neg (by rw [List.length_append]; omega), first_sgn n h1 h2]
  show (decide _ && _) = true
  rw [decide_eq_true (by rw [List.length_append]; omega), Bool.true_and, Int.toNat_natCast, List.drop_left]
  exact h
theorem rightR_text (a b : Nat) (ha : a ≤ 1114111 ∧ (a ≤ 55295 ∨ 57344 ≤ a)) (hb : b ≤ 1114111 ∧ (b ≤ 55295 ∨ 57344 ≤ b)) : ∃ N, rightR 20 N (bytesOf (textV a b)) = true := by
  have h0 : rightR 20 1 [] = true := rfl
  unfold textV
  by_cases c : b = 0
  · rw [if_pos c]
    have := rightR_sgn a ha.1 ha.2 1 [] h0
    rw [List.append_nil] at this
    exact ⟨_, this⟩
  · rw [if_neg c, bytesOf_app]
    have h1 := rightR_sgn b hb.1 hb.2 1 [] h0
    rw [List.append_nil] at h1
    exact ⟨_, rightR_sgn a ha.1 ha.2 _ _ h1⟩
set_option maxRecDepth 100000 in
set_option maxHeartbeats 4000000 in
theorem flailref01_Right.walk (K N : Nat) (a0 : ByteArray) (w : World) (hs : a0.size ≤ 1000) (h : rightR K N (bytesOf a0) = true) :
    Calls Tryd.prog 9 #[.string a0] w fun e w' => e = .returned (.bool true) ∧ Below w.heap.size w w' := by
  have kb := fun W => print_bytes (P := Tryd.prog) 9 41 5 Tryd.underlying9 Tryd.underlying41 Tryd.underlying5 a0 W
  have hR0 := bytes_reads w 5 a0 (by omega)
  have hB0 := bytes_below (Below.refl w.heap.size w) (Nat.le_refl _) 5 a0
  have hl0 : (bytesOf a0).length = a0.size := bytesOf_length a0
  have HC0 := Aside0.mk (show Kd.C (Kd.int .u8) (Lib.bytesWorld w 5 a0) (some ⟨w.heap.size, 0, none⟩) (bytesOf a0).length (bytesOf a0) from Kd.C_of_reads (h1 := fun _ => rfl) (by rw [hl0]; exact hR0))
  have HB0 := Aside0.mk hB0
  have HH := Aside0.mk h
  clear hR0 hB0 h
  go_enter Tryd.func9, Tryd.ntmps9
  go_wp2
  go_loopw [3] (fun b wr => ∃ (A : Option Addr) (c : Nat) (l : List Int) (n : Nat), b = .slice A l.length c ∧ Aside0 (Kd.C (Kd.int .u8) wr A l.length l) ∧ Aside0 (l.length ≤ c) ∧ Aside0 (rightR K n l = true) ∧ Aside0 (Below w.heap.size w wr)) (fun b _ => lenOfR b)
  case atStart => exact ⟨_, _, bytesOf a0, N, by rw [hl0], HC0, ⟨by rw [hl0]; exact grownCap_ge w a0.size 0 5⟩, HH, HB0⟩
  case round =>
    clear HC0 HB0 HH kb
    obtain ⟨A, c, l, n, rfl, hC, hc, hR, hB⟩ := hrel
    by_cases hl : l.length = 0
    · have e0 : ((l.length : Int) > 0) = False := eq_false (by omega)
      have e2 : (0 < l.length) = False := eq_false (by omega)
      have e1 : decide ((l.length : Int) > 0) = false := decide_eq_false (by omega)
      clear hR hC hc
      go_wp2
      go_ret 
      exact ⟨rfl, hB.out⟩
    · obtain ⟨n', m, rfl, hf, m0, m1, hR'⟩ := rightR_step hR.out hl
      have e0 : ((l.length : Int) > 0) = True := eq_true (by omega)
      have e2 : (0 < l.length) = True := eq_true (by omega)
      have F1 := Lib.hid (fun W h1 h2 => flailref01_first.calls K A c l m true W h1 h2 hf)
      obtain ⟨i0, hi0, _, hsz, _⟩ := info_parts info5
      obtain ⟨A', hcut, hA, hC'⟩ := print_drop_of (P := Tryd.prog) (Value.int .u8) 0 41 5 .i64 Tryd.underlying41 hi0 hsz A c l m (by omega) m1 hc.out
      have HA := Lib.hid hA
      have HM := Lib.hid (show 0 < m ∧ m ≤ (l.length : Int) from ⟨m0, m1⟩)
      have HN := Lib.hid hR'
      have HX := Lib.hid hC'
      clear hf hR hA hR' hC' hi0 hsz m0 m1 hl
      go_wp2_with fail
      refine (F1.out _ hC.out hc.out).mono ?_
      rintro e w' ⟨rfl, hb⟩
      have HB' := Aside0.mk (below_step hB.out hb)
      have HC' := Aside0.mk (Kd.C_below hC.out hb)
      clear hb hB hC
      go_wp2
      go_roundw
      case rel => first | (exact ⟨A', c - m.toNat, l.drop m.toNat, n', by rw [List.length_drop], ⟨Kd.C_of_reads (h1 := fun _ => rfl) (HA.out _ (Kd.reads_of_C HC'.out))⟩, ⟨HX.out⟩, ⟨HN.out⟩, HB'⟩) | (subst_vars; exact ⟨A', c - m.toNat, l.drop m.toNat, n', by rw [List.length_drop], ⟨Kd.C_of_reads (h1 := fun _ => rfl) (HA.out _ (Kd.reads_of_C HC'.out))⟩, ⟨HX.out⟩, ⟨HN.out⟩, HB'⟩)
      case measure => have := HM.out; simp [lenOfR]; omega
theorem flailref01_Right.calls (a0 : ByteArray) (r : Bool) (w : World) (h : flailref01_Right.f a0 = some r) :
    Calls Tryd.prog 9 #[.string a0] w fun e w' => e = .returned (.bool r) ∧ Below w.heap.size w w' := by
  unfold flailref01_Right.f at h
  split at h
  · rename_i hz
    obtain rfl := Option.some.inj h
    have hb : (bytesOf a0).length = 0 := by rw [bytesOf_length]; exact hz
    exact flailref01_Right.walk 0 1 a0 w (by omega) (by rw [rightR, if_pos hb])
  · cases h

/-! ### flaillaw06_NamesEach: function 3 -/
def flaillaw06_NamesEach.f (a0 : Int) : Option Bool := if 0 ≤ a0 ∧ a0 ≤ 65535 then some true else none
theorem sgn_B (n : Nat) (h1 : n ≤ 1114111) (h2 : n ≤ 55295 ∨ 57344 ≤ n) : (sgn (n : Int)).size ≤ signB n := by
  have e := congrArg List.length (sgn_ints n h1 h2)
  rw [bytesOf_length] at e
  unfold signB
  rw [e]
  by_cases c1 : n < 128
  · rw [if_pos c1, if_pos (show n.ble 127 = true by rw [Nat.ble_eq]; omega)]; exact Nat.le_refl _
  rw [if_neg c1, if_neg (show ¬ n.ble 127 = true from fun x => c1 (by rw [Nat.ble_eq] at x; omega))]
  by_cases c2 : n < 2048
  · rw [if_pos c2, if_pos (show n.ble 2047 = true by rw [Nat.ble_eq]; omega)]; exact Nat.le_refl _
  rw [if_neg c2, if_neg (show ¬ n.ble 2047 = true from fun x => c2 (by rw [Nat.ble_eq] at x; omega))]
  by_cases c3 : n < 65536
  · rw [if_pos c3, if_pos (show n.ble 65535 = true by rw [Nat.ble_eq]; omega)]; exact Nat.le_refl _
  rw [if_neg c3, if_neg (show ¬ n.ble 65535 = true from fun x => c3 (by rw [Nat.ble_eq] at x; omega))]; exact Nat.le_refl _
theorem each_facts (n : Nat) : ∃ A B, nameP (nthN n) = (A, B) ∧ (A ≤ 1114111 ∧ (A ≤ 55295 ∨ 57344 ≤ A)) ∧ (B ≤ 1114111 ∧ (B ≤ 55295 ∨ 57344 ≤ B)) ∧ (textV A B).size ≤ 2 * (nthN n).length ∧ 1 ≤ (textV A B).size := by
  obtain ⟨r, hr, e⟩ := nthN_mem n
  have R := rowsN_row r hr
  refine ⟨hexN (fstSp r.2) 0, hexN (sndSp r.2) 0, ?_, R.av, R.bv, ?_, ?_⟩
  · unfold nameP nameV; rw [← e, lookN r hr]; rfl
  · have s1 := sgn_B _ R.av.1 R.av.2
    have s2 := sgn_B _ R.bv.1 R.bv.2
    have sh := R.short
    rw [← e]
    unfold textV
    by_cases c : hexN (sndSp r.2) 0 = 0
    · rw [if_pos c] at sh ⊢; omega
    · rw [if_neg c] at sh ⊢; rw [ByteArray.size_append]; omega
  · have s1 := sgn_size ((hexN (fstSp r.2) 0 : Nat) : Int)
    unfold textV
    split
    · exact s1.1
    · rw [ByteArray.size_append]; omega
theorem longAt_name (k : List UInt8) (hk : isName k = true) : longAt k 0 = (k.length : Int) := by
  have h1 := longN_name k [] hk
  rw [List.append_nil] at h1
  have h2 := (longN_le k).1
  rw [longAt, if_pos ⟨by omega, by omega⟩, show (0 : Int).toNat = 0 from rfl, List.drop_zero]
  omega
set_option maxRecDepth 100000 in
set_option maxHeartbeats 4000000 in
theorem flaillaw06_NamesEach.walk (n : Int) (w : World) (hG : GW w) (hn : 0 ≤ n ∧ n ≤ 65535) :
    Calls Tryd.prog 3 #[.int .u16 n] w fun e w' => e = .returned (.bool true) ∧ Below w.heap.size w w' := by
  have HG := Aside0.mk hG
  have HB := Aside0.mk (Below.refl w.heap.size w)
  have HA := Lib.hid (fun w h => flaillaw06_awake.calls true w rfl h)
  obtain ⟨A, B, hP, hA, hB, hz1, hz2⟩ := each_facts n.toNat
  have hk := nthN_name n.toNat
  have hl := nthN_len n.toNat
  have hN := fun w => flailref06_Nth_o.calls n (bs (nthN n.toNat)) w (by rw [flailref06_Nth_o.f, if_pos hn])
  generalize nthN n.toNat = k at *
  have hsz : (bs k).size = k.length := size_bs k
  have hV := fun w h => names_Value.calls (bs k) w h
  rw [lb_bs, hP, hk] at hV
  have hT := fun w => names_Text.calls A B hA.1 hB.1 w
  have hW := fun w => flailref06_Text_o.calls (bs k) (textV A B) w (by rw [flailref06_Text_o.f, if_pos (by omega), lb_bs, nameT, hP])
  obtain ⟨N, hR⟩ := rightR_text A B hA hB
  have hRt := fun w => flailref01_Right.walk 20 N (textV A B) w (by omega) hR
  have hL := fun w => names_Longest_o.calls (bs k) 0 ((bs k).size : Int) w (by rw [names_Longest_o.f, if_pos (by omega), lb_bs, longAt_name k hk, hsz])
  have n0 := hn.1
  have n1 := hn.2
  have q1 : (1 : Int) ≤ ((textV A B).size : Int) := by omega
  have q2 : ((textV A B).size : Int) ≤ 2 * ((bs k).size : Int) := by omega
  have q3 : ((bs k).size : Int) ≤ 32 := by omega
  have q4 : (2 : Int) ≤ ((bs k).size : Int) := by omega
  clear hR hP hk hl hz1 hz2 hsz hA hB hn hG
  generalize textV A B = T at *
  generalize bs k = M at *
  have c1 : (T.toList == T.toList) = true := beq_self_eq_true _
  have c2 : (0 < T.size) = True := eq_true (by omega)
  have c3 : ((0 : Int) < (T.size : Int)) = True := eq_true (by omega)
  have c4 : decide ((T.size : Int) ≤ 2 * (M.size : Int) + 2) = true := decide_eq_true (by omega)
  have c5 : ((T.size : Int) ≤ 2 * (M.size : Int) + 2) = True := eq_true (by omega)
  have N1 := Lib.hid hN
  have V1 := Lib.hid hV
  have T1 := Lib.hid hT
  have W1 := Lib.hid hW
  have R1 := Lib.hid hRt
  have L1 := Lib.hid hL
  clear hN hV hT hW hRt hL
  go_enter Tryd.func3, Tryd.ntmps3
  go_wp2_with fail
  refine gmono (HA.out _) (HG.out.below (by repeat (first | (with_reducible first | exact HB.out | apply below_alloc | apply pw_below_drewN | apply below_drew1) | exact HB.out))) ?_
  rintro e wq ⟨rfl, hb⟩
  have n0_ := Aside0.mk (below_step (by repeat (first | (with_reducible first | exact HB.out | apply below_alloc | apply pw_below_drewN | apply below_drew1) | exact HB.out)) hb)
  clear HB
  have HB := n0_
  clear n0_ hb
  go_wp2_with fail
  refine (N1.out _).mono ?_
  rintro e wq ⟨rfl, ⟨nd, rfl⟩⟩
  go_wp2_with fail
  refine gmono (V1.out _) (HG.out.below (by repeat (first | (with_reducible first | exact HB.out | apply below_alloc | apply pw_below_drewN | apply below_drew1) | exact HB.out))) ?_
  rintro e wq ⟨rfl, hb⟩
  have n0_ := Aside0.mk (below_step (by repeat (first | (with_reducible first | exact HB.out | apply below_alloc | apply pw_below_drewN | apply below_drew1) | exact HB.out)) hb)
  clear HB
  have HB := n0_
  clear n0_ hb
  go_wp2_with fail
  refine (T1.out _).mono ?_
  rintro e wq ⟨rfl, ⟨nd, rfl⟩⟩
  go_wp2_with fail
  refine (W1.out _).mono ?_
  rintro e wq ⟨rfl, hb⟩
  have n0_ := Aside0.mk (below_step (by repeat (first | (with_reducible first | exact HB.out | apply below_alloc | apply pw_below_drewN | apply below_drew1) | exact HB.out)) hb)
  clear HB
  have HB := n0_
  clear n0_ hb
  go_wp2_with fail
  refine (R1.out _).mono ?_
  rintro e wq ⟨rfl, hb⟩
  have n0_ := Aside0.mk (below_step (by repeat (first | (with_reducible first | exact HB.out | apply below_alloc | apply pw_below_drewN | apply below_drew1) | exact HB.out)) hb)
  clear HB
  have HB := n0_
  clear n0_ hb
  go_wp2_with fail
  refine (L1.out _).mono ?_
  rintro e wq ⟨rfl, hb⟩
  have n0_ := Aside0.mk (below_step (by repeat (first | (with_reducible first | exact HB.out | apply below_alloc | apply pw_below_drewN | apply below_drew1) | exact HB.out)) hb)
  clear HB
  have HB := n0_
  clear n0_ hb
  go_wp2
  go_ret 
  exact ⟨rfl, by repeat (first | (with_reducible first | exact HB.out | apply below_alloc | apply pw_below_drewN | apply below_drew1) | exact HB.out)⟩
theorem flaillaw06_NamesEach.calls (a0 : Int) (r : Bool) (w : World) (h : flaillaw06_NamesEach.f a0 = some r) (hG : GW w) :
    Calls Tryd.prog 3 #[.int .u16 a0] w fun e w' => e = .returned (.bool r) ∧ Below w.heap.size w w' := by
  unfold flaillaw06_NamesEach.f at h
  split at h
  · rename_i hb
    obtain rfl := Option.some.inj h
    exact flaillaw06_NamesEach.walk a0 w hG hb
  · cases h

end
end Go.Proofs.YtpcpcimbkdogcaaDoor.P
