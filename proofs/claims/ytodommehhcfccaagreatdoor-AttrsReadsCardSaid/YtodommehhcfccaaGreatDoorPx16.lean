/- Printed by a program of this session over the kit's print.py: functions of the Go program told as Lean functions, each with the proof that its call answers so. No conditions. -/
import Derived.Test.YtodommehhcfccaaGreatDoorPx0
import Derived.Test.YtodommehhcfccaaGreatDoorPx1
import Derived.Test.YtodommehhcfccaaGreatDoorPx15
namespace Go.Proofs.YtodommehhcfccaaGreatDoor.P
open Go.RowKit Go.Proofs.YtodommehhcfccaaGreatDoor.G Go.Proofs.YtodommehhcfccaaGreatDoorW.PrintWords Go.Proofs.YtodommehhcfccaaGreatDoorW.PrintLast Go.Proofs.YtodommehhcfccaaGreatDoorW.PrintMore
attribute [local go_sem high] G.str_leq G.str_gtr
attribute [local go_sem] max2_int min2_int max_two min_two max_three min_three max_four min_four   -- for this text's walks alone
set_option linter.unusedVariables false
set_option linter.unusedSimpArgs false
noncomputable section

attribute [local go_sem high] eqA34
/-! ### flailref08_Same: function 8 -/
def flailref08_Same.l0 : Nat → List (S34) → List (S34) → Int → Option (Bool)
 | 0, _, _, _ => none
 | k + 1, x0, x1, x5 => if x5 < (x0.length : Int) then (if 0 ≤ x5 then (if x5 < (x1.length : Int) then (if (!((((rd_T34 x0 x5).f0).toList) == (((rd_T34 x1 x5).f0).toList)) || (!((((rd_T34 x0 x5).f1).toList) == (((rd_T34 x1 x5).f1).toList)))) = true then (some false) else (flailref08_Same.l0 k x0 x1 (wrap64 (x5 + 1)))) else (none)) else (none)) else (some true)
def flailref08_Same.f (k : Nat) (l0 : List (S34)) (l1 : List (S34)) : Option (Bool) := if (l0.length : Int) = (l1.length : Int) then (flailref08_Same.l0 k l0 l1 0) else (some false)
theorem flailref08_Same.mono_l : ∀ k, (∀ y0 y1 y2, LeO (flailref08_Same.l0 k y0 y1 y2) (flailref08_Same.l0 (k + 1) y0 y1 y2))
 | 0 => fun _ _ _ r h => by simp [flailref08_Same.l0] at h
 | k + 1 => by
  have ih0 := flailref08_Same.mono_l k
  ·
   intro y0 y1 y2
   unfold flailref08_Same.l0
   repeat' first
   | (with_reducible exact ih0 _ _ _)
   | (with_reducible exact LeO.refl _)
   | (with_reducible exact LeO.none _)
   | (with_reducible refine LeO.ite ?_ ?_)
   | (with_reducible refine LeO.bind ?_ (fun _ => ?_))
   | exact ih0 _ _ _
   | exact LeO.none _
   | refine LeO.ite ?_ ?_
   | refine LeO.bind ?_ (fun _ => ?_)
theorem flailref08_Same.mono : ∀ a0 a1 k, LeO (flailref08_Same.f k a0 a1) (flailref08_Same.f (k + 1) a0 a1) := by
 intro a0 a1 k
 have ih0 := flailref08_Same.mono_l k
 unfold flailref08_Same.f
 repeat' first
   | (with_reducible exact ih0 _ _ _)
   | (with_reducible exact LeO.refl _)
   | (with_reducible exact LeO.none _)
   | (with_reducible refine LeO.ite ?_ ?_)
   | (with_reducible refine LeO.bind ?_ (fun _ => ?_))
   | exact ih0 _ _ _
   | exact LeO.none _
   | refine LeO.ite ?_ ?_
   | refine LeO.bind ?_ (fun _ => ?_)
set_option maxHeartbeats 8000000 in
set_option maxRecDepth 100000 in
theorem flailref08_Same.calls (k : Nat) (A0 : Option Addr) (c0 : Nat) (l0 : List (S34)) (A1 : Option Addr) (c1 : Nat) (l1 : List (S34)) (r : Bool) (w : World) (hr0 : Kd.C k34 w A0 l0.length l0) (hc0 : l0.length ≤ c0) (hr1 : Kd.C k34 w A1 l1.length l1) (hc1 : l1.length ≤ c1) (h : flailref08_Same.f k l0 l1 = some r) :
  Calls Tryz.prog 8 #[.slice A0 l0.length c0, .slice A1 l1.length c1] w fun e w' => e = .returned (.bool r) ∧ Drawn0 w w' := by
 have hu34 := Tryz.underlying34
 have HR0 := Aside0.mk hr0
 have HC0 := Aside0.mk hc0
 clear hr0 hc0
 have HR1 := Aside0.mk hr1
 have HC1 := Aside0.mk hc1
 clear hr1 hc1
 have H : (if (l0.length : Int) = (l1.length : Int) then (flailref08_Same.l0 k l0 l1 0) else (some false)) = some r := h
 clear h
 by_cases c3 : (l0.length : Int) = (l1.length : Int)
 ·
  rw [if_pos c3] at H
  have c3b0 : ((l0.length : Int) == (l1.length : Int)) = true := beq_iff_eq.mpr c3
  have c3b1 : ((l0.length : Int) != (l1.length : Int)) = false := bne_eq_false_iff_eq.mpr c3
  have c3b2 : (l0.length == l1.length) = true := by first | simpa using c3 | (simp at c3 ⊢; omega)
  clear c3
  have H' := Aside0.mk H
  clear H
  go_enter Tryz.func8, Tryz.ntmps8
  go_wp2
  repeat (go_quiet (fail); try go_wp2)
  go_loopg [5] k (fun kq v5 w' => ∃ (x5_1 : Int), v5 = .int .i64 x5_1 ∧ Aside0 (flailref08_Same.l0 kq l0 l1 x5_1 = some r) ∧ Aside0 (kq ≤ k) ∧ Drawn0 w w')
  case atStart => exact ⟨(0), (by first | rfl | (simp; done) | (simp [*]; done) | (rw [w64 (by omega) (by omega)]; done)), H', ⟨Nat.le_refl _⟩, by repeat (first | exact Drawn0.refl _ | apply Drawn0.step)⟩
  case round =>
   clear H'
   try clear c1
   try clear p2
   try clear c3
   try clear c3b0
   try clear c3b1
   try clear c3b2
   obtain ⟨x5_1, rfl, HA, HK1, ⟨m1, rfl⟩⟩ := hrel
   cases gk with
   | zero => exact absurd HA.out (by simp [flailref08_Same.l0])
   | succ k1 =>
    have H := HA.out
    clear HA
    simp only [flailref08_Same.l0] at H
    by_cases c4 : x5_1 < (l0.length : Int)
    ·
     rw [if_pos c4] at H
     have c4b0 : decide (x5_1 < (l0.length : Int)) = true := decide_eq_true c4
     clear c4
     by_cases c5 : 0 ≤ x5_1
     ·
      rw [if_pos c5] at H
      have c5b0 : decide (0 ≤ x5_1) = true := decide_eq_true c5
      clear c5
      by_cases c6 : x5_1 < (l1.length : Int)
      ·
       rw [if_pos c6] at H
       have c6b0 : decide (x5_1 < (l1.length : Int)) = true := decide_eq_true c6
       clear c6
       by_cases c7 : (!((((rd_T34 l0 x5_1).f0).toList) == (((rd_T34 l1 x5_1).f0).toList)) || (!((((rd_T34 l0 x5_1).f1).toList) == (((rd_T34 l1 x5_1).f1).toList)))) = true
       ·
        rw [if_pos c7] at H
        have c7b0 : (!((((rd_T34 l0 x5_1).f0).toList) == (((rd_T34 l1 x5_1).f0).toList)) || (!((((rd_T34 l0 x5_1).f1).toList) == (((rd_T34 l1 x5_1).f1).toList)))) = true := c7
        clear c7
        obtain rfl := Option.some.inj H
        have p155 : 0 ≤ (x5_1 : Int) := of_decide_eq_true (by first | (with_reducible assumption) | assumption)
        have q155 : x5_1 < (l0.length : Int) := of_decide_eq_true (by first | (with_reducible assumption) | assumption)
        obtain ⟨ad155, e155, hx155_0, hx155_1⟩ := at_T34 HR0.out x5_1 p155 q155
        cases e155
        replace p155 := eq_true p155
        replace q155 := eq_true q155
        have p156 : 0 ≤ (x5_1 : Int) := of_decide_eq_true (by first | (with_reducible assumption) | assumption)
        have q156 : x5_1 < (l1.length : Int) := of_decide_eq_true (by first | (with_reducible assumption) | assumption)
        obtain ⟨ad156, e156, hx156_0, hx156_1⟩ := at_T34 HR1.out x5_1 p156 q156
        cases e156
        replace p156 := eq_true p156
        replace q156 := eq_true q156
        go_wp2
        repeat (go_quiet (fail); try go_wp2)
        all_goals (first | (go_ret; exact ⟨by first | rfl | (simp; done) | (simp [*]; done), by repeat (first | exact Drawn0.refl _ | apply Drawn0.step)⟩) | (exfalso; omega) | (rename_i h_; exfalso; simp [*] at h_; done))
       ·
        rw [if_neg c7] at H
        have c7b0 : (!((((rd_T34 l0 x5_1).f0).toList) == (((rd_T34 l1 x5_1).f0).toList)) || (!((((rd_T34 l0 x5_1).f1).toList) == (((rd_T34 l1 x5_1).f1).toList)))) = false := by simpa using c7
        clear c7
        have H' := Aside0.mk H
        clear H
        have p155 : 0 ≤ (x5_1 : Int) := of_decide_eq_true (by first | (with_reducible assumption) | assumption)
        have q155 : x5_1 < (l0.length : Int) := of_decide_eq_true (by first | (with_reducible assumption) | assumption)
        obtain ⟨ad155, e155, hx155_0, hx155_1⟩ := at_T34 HR0.out x5_1 p155 q155
        cases e155
        replace p155 := eq_true p155
        replace q155 := eq_true q155
        have p156 : 0 ≤ (x5_1 : Int) := of_decide_eq_true (by first | (with_reducible assumption) | assumption)
        have q156 : x5_1 < (l1.length : Int) := of_decide_eq_true (by first | (with_reducible assumption) | assumption)
        obtain ⟨ad156, e156, hx156_0, hx156_1⟩ := at_T34 HR1.out x5_1 p156 q156
        cases e156
        replace p156 := eq_true p156
        replace q156 := eq_true q156
        go_wp2
        repeat (go_quiet (fail); try go_wp2)
        first | go_roundg k1 | (subst_vars; go_roundg k1)
        case measure => have := HK1.out; omega
        case rel => first | (exact ⟨(wrap64 (x5_1 + 1)), (by first | rfl | (simp; done) | (simp [*]; done) | (rw [w64 (by omega) (by omega)]; done)), H', ⟨by have := HK1.out; omega⟩, by repeat (first | exact Drawn0.refl _ | apply Drawn0.step)⟩) | (subst_vars; exact ⟨(wrap64 (x5_1 + 1)), (by first | rfl | (simp; done) | (simp [*]; done) | (rw [w64 (by omega) (by omega)]; done)), H', ⟨by have := HK1.out; omega⟩, by repeat (first | exact Drawn0.refl _ | apply Drawn0.step)⟩)
      ·
       rw [if_neg c6] at H
       exact absurd H (by simp)
     ·
      rw [if_neg c5] at H
      exact absurd H (by simp)
    ·
     rw [if_neg c4] at H
     have c4b0 : decide (x5_1 < (l0.length : Int)) = false := decide_eq_false c4
     clear c4
     obtain rfl := Option.some.inj H
     go_wp2
     repeat (go_quiet (fail); try go_wp2)
     all_goals (first | (go_ret; exact ⟨by first | rfl | (simp; done) | (simp [*]; done), by repeat (first | exact Drawn0.refl _ | apply Drawn0.step)⟩) | (exfalso; omega) | (rename_i h_; exfalso; simp [*] at h_; done))
 ·
  rw [if_neg c3] at H
  have c3b0 : ((l0.length : Int) == (l1.length : Int)) = false := beq_eq_false_iff_ne.mpr c3
  have c3b1 : ((l0.length : Int) != (l1.length : Int)) = true := bne_iff_ne.mpr c3
  have c3b2 : (l0.length == l1.length) = false := by first | simpa using c3 | (simp at c3 ⊢; omega)
  obtain rfl := Option.some.inj H
  go_enter Tryz.func8, Tryz.ntmps8
  go_wp2
  repeat (go_quiet (fail); try go_wp2)
  all_goals (first | (go_ret; exact ⟨by first | rfl | (simp; done) | (simp [*]; done), by repeat (first | exact Drawn0.refl _ | apply Drawn0.step)⟩) | (exfalso; omega) | (rename_i h_; exfalso; simp [*] at h_; done))

/-! flailref08_Same, told over -/
def pA (x : S34) : List UInt8 × List UInt8 := (lb x.f0, lb x.f1)
theorem pA_inj {x y : S34} (h : pA x = pA y) : x = y := by
 obtain ⟨a, b⟩ := x
 obtain ⟨c, d⟩ := y
 have h1 : (lb a, lb b) = (lb c, lb d) := h
 rw [Prod.mk.injEq] at h1
 rw [lb_inj h1.1, lb_inj h1.2]
def flailref08_Same_o.f (l0 l1 : List S34) : Option Bool := if l0.length ≤ 1099511627776 then some (decide (l0.map pA = l1.map pA)) else none
theorem rd_TA (l : List S34) (i : Nat) (h : i < l.length) : rd_T34 l (i : Int) = l[i] := by
 show l.getD (i : Int).toNat _ = _
 rw [Int.toNat_natCast]; simp [List.getD, List.getElem?_eq_getElem h]
theorem flailref08_Same.lem (l0 l1 : List S34) (hl : l0.length = l1.length) (hs : l0.length ≤ 1099511627776) : ∀ (n i : Nat), i + n = l0.length → flailref08_Same.l0 (n + 1) l0 l1 (i : Int) = some (decide ((l0.drop i).map pA = (l1.drop i).map pA))
 | 0, i, h => by
  rw [flailref08_Same.l0, if_neg (by omega), List.drop_of_length_le (by omega), List.drop_of_length_le (by omega)]; rfl
 | n + 1, i, h => by
  have h0 : i < l0.length := by omega
  have h1 : i < l1.length := by omega
  rw [flailref08_Same.l0, if_pos (by omega), if_pos (by omega), if_pos (by omega), rd_TA l0 i h0, rd_TA l1 i h1, List.drop_eq_getElem_cons h0, List.drop_eq_getElem_cons h1, List.map_cons, List.map_cons, toList_lb, toList_lb, toList_lb, toList_lb]
  by_cases c : pA l0[i] = pA l1[i]
  ·
   have c1 : (lb l0[i].f0, lb l0[i].f1) = (lb l1[i].f0, lb l1[i].f1) := c
   rw [Prod.mk.injEq] at c1
   rw [if_neg (by rw [c1.1, c1.2]; simp), w64 (by omega) (by omega), show (i : Int) + 1 = ((i + 1 : Nat) : Int) by omega, flailref08_Same.lem l0 l1 hl hs n (i + 1) (by omega), c]
   simp
  ·
   rw [if_pos (by
    rw [Bool.or_eq_true, Bool.not_eq_true', Bool.not_eq_true', beq_eq_false_iff_ne, beq_eq_false_iff_ne]
    by_cases d : lb l0[i].f0 = lb l1[i].f0
    ·
     exact .inr (fun e => c (by show (lb l0[i].f0, lb l0[i].f1) = (lb l1[i].f0, lb l1[i].f1); rw [d, e]))
    ·
     exact .inl d), decide_eq_false (fun e => c (List.cons.inj e).1)]
theorem flailref08_Same_o.sound (l0 l1 : List S34) (r : Bool) (h : flailref08_Same_o.f l0 l1 = some r) : ∃ k, flailref08_Same.f k l0 l1 = some r := by
 unfold flailref08_Same_o.f at h
 split at h
 ·
  rename_i hs
  rw [← h]
  by_cases hl : l0.length = l1.length
  ·
   refine ⟨l0.length + 1, ?_⟩
   rw [flailref08_Same.f, if_pos (by omega)]
   exact flailref08_Same.lem l0 l1 hl hs _ 0 (by omega)
  ·
   refine ⟨0, ?_⟩
   rw [flailref08_Same.f, if_neg (by omega), decide_eq_false (fun e => hl (by simpa using congrArg List.length e))]
 ·
  cases h
set_option maxRecDepth 100000 in
theorem flailref08_Same_o.calls (A0 : Option Addr) (c0 : Nat) (l0 : List (S34)) (A1 : Option Addr) (c1 : Nat) (l1 : List (S34)) (r : Bool) (w : World) (hr0 : Kd.C k34 w A0 l0.length l0) (hc0 : l0.length ≤ c0) (hr1 : Kd.C k34 w A1 l1.length l1) (hc1 : l1.length ≤ c1) (h : flailref08_Same_o.f l0 l1 = some r) :
  Calls Tryz.prog 8 #[.slice A0 l0.length c0, .slice A1 l1.length c1] w fun e w' => e = .returned (.bool r) ∧ Drawn0 w w' := by
 obtain ⟨k, hk⟩ := flailref08_Same_o.sound _ _ _ h
 exact flailref08_Same.calls k A0 c0 l0 A1 c1 l1 r w hr0 hc0 hr1 hc1 hk

/-! ### flaillaw08_awake: function 5 -/
def flaillaw08_awake.f  : Option (Bool) := (attrs_Read.f (⟨#[32, 120, 61, 49, 32, 89, 61, 39, 38, 108, 116, 59, 39, 32, 122, 47, 62]⟩ : ByteArray) 0).bind fun bt157 => (if bt157.2.2.2 = true then (if bt157.2.1 = true then (if bt157.2.2.1 = 17 then ((flailref08_Same_o.f bt157.1 (([(⟨(⟨#[120]⟩ : ByteArray), (⟨#[49]⟩ : ByteArray)⟩ : S34), (⟨(⟨#[121]⟩ : ByteArray), (⟨#[60]⟩ : ByteArray)⟩ : S34), (⟨(⟨#[122]⟩ : ByteArray), (⟨#[]⟩ : ByteArray)⟩ : S34)] : List (S34)))).bind fun t166 => (some t166)) else (some false)) else (some false)) else (some false))
set_option maxHeartbeats 8000000 in
set_option maxRecDepth 100000 in
theorem flaillaw08_awake.calls  (r : Bool) (w : World) (h : flaillaw08_awake.f  = some r) (hG : GW w) :
  Calls Tryz.prog 5 #[] w fun e w' => e = .returned (.bool r) ∧ Below w.heap.size w w' := by
 have HG := Aside0.mk hG
 clear hG
 have hu34 := Tryz.underlying34
 have HB := Aside0.mk (Below.refl w.heap.size w)
 have H : ((attrs_Read.f (⟨#[32, 120, 61, 49, 32, 89, 61, 39, 38, 108, 116, 59, 39, 32, 122, 47, 62]⟩ : ByteArray) 0).bind fun bt157 => (if bt157.2.2.2 = true then (if bt157.2.1 = true then (if bt157.2.2.1 = 17 then ((flailref08_Same_o.f bt157.1 (([(⟨(⟨#[120]⟩ : ByteArray), (⟨#[49]⟩ : ByteArray)⟩ : S34), (⟨(⟨#[121]⟩ : ByteArray), (⟨#[60]⟩ : ByteArray)⟩ : S34), (⟨(⟨#[122]⟩ : ByteArray), (⟨#[]⟩ : ByteArray)⟩ : S34)] : List (S34)))).bind fun t166 => (some t166)) else (some false)) else (some false)) else (some false))) = some r := h
 clear h
 replace H := Option.bind_eq_some_iff.mp H
 obtain ⟨⟨t157, t158, t159, t160⟩, A10, H⟩ := H
 replace H : (if t160 = true then (if t158 = true then (if t159 = 17 then ((flailref08_Same_o.f t157 (([(⟨(⟨#[120]⟩ : ByteArray), (⟨#[49]⟩ : ByteArray)⟩ : S34), (⟨(⟨#[121]⟩ : ByteArray), (⟨#[60]⟩ : ByteArray)⟩ : S34), (⟨(⟨#[122]⟩ : ByteArray), (⟨#[]⟩ : ByteArray)⟩ : S34)] : List (S34)))).bind fun t166 => (some t166)) else (some false)) else (some false)) else (some false)) = some r := H
 have A1 := Aside0.mk A10
 clear A10
 by_cases c2 : t160 = true
 ·
  subst c2
  have H1 : (if t158 = true then (if t159 = 17 then ((flailref08_Same_o.f t157 (([(⟨(⟨#[120]⟩ : ByteArray), (⟨#[49]⟩ : ByteArray)⟩ : S34), (⟨(⟨#[121]⟩ : ByteArray), (⟨#[60]⟩ : ByteArray)⟩ : S34), (⟨(⟨#[122]⟩ : ByteArray), (⟨#[]⟩ : ByteArray)⟩ : S34)] : List (S34)))).bind fun t166 => (some t166)) else (some false)) else (some false)) = some r := by rw [if_pos rfl] at H; exact H
  clear H
  have H := H1
  clear H1
  by_cases c3 : t158 = true
  ·
   subst c3
   have H1 : (if t159 = 17 then ((flailref08_Same_o.f t157 (([(⟨(⟨#[120]⟩ : ByteArray), (⟨#[49]⟩ : ByteArray)⟩ : S34), (⟨(⟨#[121]⟩ : ByteArray), (⟨#[60]⟩ : ByteArray)⟩ : S34), (⟨(⟨#[122]⟩ : ByteArray), (⟨#[]⟩ : ByteArray)⟩ : S34)] : List (S34)))).bind fun t166 => (some t166)) else (some false)) = some r := by rw [if_pos rfl] at H; exact H
   clear H
   have H := H1
   clear H1
   by_cases c4 : t159 = 17
   ·
    rw [if_pos c4] at H
    have c4b0 : (t159 == 17) = true := beq_iff_eq.mpr c4
    have c4b1 : (t159 != 17) = false := bne_eq_false_iff_eq.mpr c4
    clear c4
    obtain ⟨y163, hy163⟩ : ∃ y_ : List (S34), y_ = (([(⟨(⟨#[120]⟩ : ByteArray), (⟨#[49]⟩ : ByteArray)⟩ : S34), (⟨(⟨#[121]⟩ : ByteArray), (⟨#[60]⟩ : ByteArray)⟩ : S34), (⟨(⟨#[122]⟩ : ByteArray), (⟨#[]⟩ : ByteArray)⟩ : S34)] : List (S34))) := ⟨_, rfl⟩
    replace H : ((flailref08_Same_o.f t157 y163).bind fun t166 => (some t166)) = some r := by first | (rw [hy163]; with_reducible exact H) | (have H2_ := (Option.bind_some _ _).symm.trans H; rw [hy163]; with_reducible exact H2_) | (have H2_ := (Option.bind_some _ _).symm.trans H; with_reducible exact H2_) | with_reducible exact H | (rw [hy163]; exact H) | exact H
    have Ny163 := Aside0.mk hy163
    clear hy163
    replace H := Option.bind_eq_some_iff.mp H
    obtain ⟨t166, A50, H⟩ := H
    replace H : (some t166) = some r := H
    have A5 := Aside0.mk A50
    clear A50
    obtain rfl := Option.some.inj H
    go_enter Tryz.func5, Tryz.ntmps5
    go_wp2_with (first | ((with_reducible refine gate_callee (f := 6) rfl ?_); refine goesL_ (some 6) rfl rfl Tryz.func6 (by kernel_rfl) rfl #[.string (⟨#[32, 120, 61, 49, 32, 89, 61, 39, 38, 108, 116, 59, 39, 32, 122, 47, 62]⟩ : ByteArray), .int .i64 0] rfl (by (try simp only [List.map_toArray, List.map_cons, List.map_nil]); first | done | rfl | (simp only [List.length_drop, List.length_take]; rfl)) ?_; (with_reducible refine (attrs_Read.calls (⟨#[32, 120, 61, 49, 32, 89, 61, 39, 38, 108, 116, 59, 39, 32, 122, 47, 62]⟩ : ByteArray) 0 t157 true t159 true _ A1.out ?_).mono ?_); (exact HG.out.below (by repeat (first | (with_reducible first | exact HB.out | apply below_alloc | apply pw_below_drewN | apply below_drew1) | exact HB.out))); rintro e w6 ⟨v161, rfl, ho0, hb⟩; refine ⟨_, rfl, ?_⟩; have n0_ := Aside0.mk (Kd.R_lower ho0 (below_size (by repeat (first | (with_reducible first | exact HB.out | apply below_alloc | apply pw_below_drewN | apply below_drew1) | exact HB.out)))); have n1_ := Aside0.mk (below_step (by repeat (first | (with_reducible first | exact HB.out | apply below_alloc | apply pw_below_drewN | apply below_drew1) | exact HB.out)) hb); clear HB; have HO162 := n0_; have HB := n1_; clear n0_ n1_; (try clear hb); (try clear hb2); (try clear hk); (try clear hi); (try clear ho0)) | ((with_reducible refine gate_dst (N := 24) rfl ?_); (try (refine gate_guard (by rfl) ?_; dsimp only)); refine Kd.R_lit k34 _ 34 ?hg (N := 24) ?hd (xs := ([(⟨(⟨#[120]⟩ : ByteArray), (⟨#[49]⟩ : ByteArray)⟩ : S34), (⟨(⟨#[121]⟩ : ByteArray), (⟨#[60]⟩ : ByteArray)⟩ : S34), (⟨(⟨#[122]⟩ : ByteArray), (⟨#[]⟩ : ByteArray)⟩ : S34)] : List (S34))) (inner := [.string (⟨#[120]⟩ : ByteArray), .string (⟨#[49]⟩ : ByteArray), .string (⟨#[121]⟩ : ByteArray), .string (⟨#[60]⟩ : ByteArray), .string (⟨#[122]⟩ : ByteArray), .string (⟨#[]⟩ : ByteArray)]) (ok := fun _ => True) (okp := fun _ => True) ?hr ?hp (fun _ hk => hk) trivial (Below.refl _ _) (Nat.le_refl _) (by simp) ?_; (case hd => rfl); (case hg => rfl); (case hr => first | (go_simp; done) | (go_simp; rfl)); (case hp => exact (Reps.c2 (show Kd.M k34 _ _ _ (⟨(⟨#[120]⟩ : ByteArray), (⟨#[49]⟩ : ByteArray)⟩ : S34) [.string (⟨#[120]⟩ : ByteArray), .string (⟨#[49]⟩ : ByteArray)] from (k34_mkM _ _ _ (⟨(⟨#[120]⟩ : ByteArray), (⟨#[49]⟩ : ByteArray)⟩ : S34) )) (Reps.c2 (show Kd.M k34 _ _ _ (⟨(⟨#[121]⟩ : ByteArray), (⟨#[60]⟩ : ByteArray)⟩ : S34) [.string (⟨#[121]⟩ : ByteArray), .string (⟨#[60]⟩ : ByteArray)] from (k34_mkM _ _ _ (⟨(⟨#[121]⟩ : ByteArray), (⟨#[60]⟩ : ByteArray)⟩ : S34) )) (Reps.c2 (show Kd.M k34 _ _ _ (⟨(⟨#[122]⟩ : ByteArray), (⟨#[]⟩ : ByteArray)⟩ : S34) [.string (⟨#[122]⟩ : ByteArray), .string (⟨#[]⟩ : ByteArray)] from (k34_mkM _ _ _ (⟨(⟨#[122]⟩ : ByteArray), (⟨#[]⟩ : ByteArray)⟩ : S34) )) (Reps.none _ _))))); intro v164 w7 ho8 hb hg_ hnew_; clear hg_ hnew_; (first | rw [← Ny163.out] at ho8 | (simp only [Int.reduceToNat] at ho8; rw [← Ny163.out] at ho8)); have n0_ := Aside0.mk (Kd.R_elder' (by (with_reducible repeat (first | apply Kd.R_alloc | apply Kd.R_drewN | apply Kd.R_drew)); exact HO162.out) (Kd.R_base ho8) hb); have n1_ := Aside0.mk (Kd.R_lower (Kd.R_new' ho8 (Kd.R_lt (by (with_reducible repeat (first | apply Kd.R_alloc | apply Kd.R_drewN | apply Kd.R_drew)); exact HO162.out))) (below_size (by repeat (first | (with_reducible first | exact HB.out | apply below_alloc | apply pw_below_drewN | apply below_drew1) | exact HB.out)))); have n2_ := Aside0.mk (below_step (by repeat (first | (with_reducible first | exact HB.out | apply below_alloc | apply pw_below_drewN | apply below_drew1) | exact HB.out)) hb); clear HO162; clear HB; have HO162 := n0_; have HO165 := n1_; have HB := n2_; clear n0_ n1_ n2_; clear hb ho8; obtain ⟨Ao9, co9, eo9⟩ := Kd.R_slice HO162.out; subst eo9; obtain ⟨Ao10, co10, eo10⟩ := Kd.R_slice HO165.out; subst eo10) | (go_at_call 8; (with_reducible refine (flailref08_Same_o.calls _ _ t157 _ _ y163 t166 _ ?side1 ?side2 ?side3 ?side4 A5.out).mono ?_); (case side1 => repeat (first | exact (Kd.R_reads' HO162.out).2.2 | (with_reducible refine Kd.C_alloc ?_ _) | (with_reducible refine Kd.C_drewN ?_ _) | (with_reducible refine Kd.C_drew ?_))); (case side2 => exact (Kd.R_reads' HO162.out).2.1); (case side3 => repeat (first | exact (Kd.R_reads' HO165.out).2.2 | (with_reducible refine Kd.C_alloc ?_ _) | (with_reducible refine Kd.C_drewN ?_ _) | (with_reducible refine Kd.C_drew ?_))); (case side4 => exact (Kd.R_reads' HO165.out).2.1); rintro e w' ⟨rfl, ⟨nd, rfl⟩⟩))
    all_goals (first | (go_ret; exact ⟨by first | rfl | (simp [errW_none, errW_some] <;> rfl) | (simp [*, errW_none, errW_some] <;> rfl) | (rw [w64 (by omega) (by omega)]; done), by repeat (first | (with_reducible first | exact HB.out | apply below_alloc | apply pw_below_drewN | apply below_drew1) | exact HB.out)⟩) | (exfalso; omega) | (rename_i h_; exfalso; simp [*] at h_; done))
   ·
    rw [if_neg c4] at H
    have c4b0 : (t159 == 17) = false := beq_eq_false_iff_ne.mpr c4
    have c4b1 : (t159 != 17) = true := bne_iff_ne.mpr c4
    obtain rfl := Option.some.inj H
    go_enter Tryz.func5, Tryz.ntmps5
    go_wp2_with (first | ((with_reducible refine gate_callee (f := 6) rfl ?_); refine goesL_ (some 6) rfl rfl Tryz.func6 (by kernel_rfl) rfl #[.string (⟨#[32, 120, 61, 49, 32, 89, 61, 39, 38, 108, 116, 59, 39, 32, 122, 47, 62]⟩ : ByteArray), .int .i64 0] rfl (by (try simp only [List.map_toArray, List.map_cons, List.map_nil]); first | done | rfl | (simp only [List.length_drop, List.length_take]; rfl)) ?_; (with_reducible refine (attrs_Read.calls (⟨#[32, 120, 61, 49, 32, 89, 61, 39, 38, 108, 116, 59, 39, 32, 122, 47, 62]⟩ : ByteArray) 0 t157 true t159 true _ A1.out ?_).mono ?_); (exact HG.out.below (by repeat (first | (with_reducible first | exact HB.out | apply below_alloc | apply pw_below_drewN | apply below_drew1) | exact HB.out))); rintro e w11 ⟨v161, rfl, ho0, hb⟩; refine ⟨_, rfl, ?_⟩; have n0_ := Aside0.mk (Kd.R_lower ho0 (below_size (by repeat (first | (with_reducible first | exact HB.out | apply below_alloc | apply pw_below_drewN | apply below_drew1) | exact HB.out)))); have n1_ := Aside0.mk (below_step (by repeat (first | (with_reducible first | exact HB.out | apply below_alloc | apply pw_below_drewN | apply below_drew1) | exact HB.out)) hb); clear HB; have HO162 := n0_; have HB := n1_; clear n0_ n1_; (try clear hb); (try clear hb2); (try clear hk); (try clear hi); (try clear ho0)))
    all_goals (first | (go_ret; exact ⟨by first | rfl | (simp [errW_none, errW_some] <;> rfl) | (simp [*, errW_none, errW_some] <;> rfl) | (rw [w64 (by omega) (by omega)]; done), by repeat (first | (with_reducible first | exact HB.out | apply below_alloc | apply pw_below_drewN | apply below_drew1) | exact HB.out)⟩) | (exfalso; omega) | (rename_i h_; exfalso; simp [*] at h_; done))
  ·
   replace c3 := Bool.eq_false_iff.mpr c3
   subst c3
   have H1 : (some false) = some r := by rw [if_neg (show ¬ (false = true) by decide)] at H; exact H
   clear H
   have H := H1
   clear H1
   obtain rfl := Option.some.inj H
   go_enter Tryz.func5, Tryz.ntmps5
   go_wp2_with (first | ((with_reducible refine gate_callee (f := 6) rfl ?_); refine goesL_ (some 6) rfl rfl Tryz.func6 (by kernel_rfl) rfl #[.string (⟨#[32, 120, 61, 49, 32, 89, 61, 39, 38, 108, 116, 59, 39, 32, 122, 47, 62]⟩ : ByteArray), .int .i64 0] rfl (by (try simp only [List.map_toArray, List.map_cons, List.map_nil]); first | done | rfl | (simp only [List.length_drop, List.length_take]; rfl)) ?_; (with_reducible refine (attrs_Read.calls (⟨#[32, 120, 61, 49, 32, 89, 61, 39, 38, 108, 116, 59, 39, 32, 122, 47, 62]⟩ : ByteArray) 0 t157 false t159 true _ A1.out ?_).mono ?_); (exact HG.out.below (by repeat (first | (with_reducible first | exact HB.out | apply below_alloc | apply pw_below_drewN | apply below_drew1) | exact HB.out))); rintro e w12 ⟨v161, rfl, ho0, hb⟩; refine ⟨_, rfl, ?_⟩; have n0_ := Aside0.mk (Kd.R_lower ho0 (below_size (by repeat (first | (with_reducible first | exact HB.out | apply below_alloc | apply pw_below_drewN | apply below_drew1) | exact HB.out)))); have n1_ := Aside0.mk (below_step (by repeat (first | (with_reducible first | exact HB.out | apply below_alloc | apply pw_below_drewN | apply below_drew1) | exact HB.out)) hb); clear HB; have HO162 := n0_; have HB := n1_; clear n0_ n1_; (try clear hb); (try clear hb2); (try clear hk); (try clear hi); (try clear ho0)))
   all_goals (first | (go_ret; exact ⟨by first | rfl | (simp [errW_none, errW_some] <;> rfl) | (simp [*, errW_none, errW_some] <;> rfl) | (rw [w64 (by omega) (by omega)]; done), by repeat (first | (with_reducible first | exact HB.out | apply below_alloc | apply pw_below_drewN | apply below_drew1) | exact HB.out)⟩) | (exfalso; omega) | (rename_i h_; exfalso; simp [*] at h_; done))
 ·
  replace c2 := Bool.eq_false_iff.mpr c2
  subst c2
  have H1 : (some false) = some r := by rw [if_neg (show ¬ (false = true) by decide)] at H; exact H
  clear H
  have H := H1
  clear H1
  obtain rfl := Option.some.inj H
  go_enter Tryz.func5, Tryz.ntmps5
  go_wp2_with (first | ((with_reducible refine gate_callee (f := 6) rfl ?_); refine goesL_ (some 6) rfl rfl Tryz.func6 (by kernel_rfl) rfl #[.string (⟨#[32, 120, 61, 49, 32, 89, 61, 39, 38, 108, 116, 59, 39, 32, 122, 47, 62]⟩ : ByteArray), .int .i64 0] rfl (by (try simp only [List.map_toArray, List.map_cons, List.map_nil]); first | done | rfl | (simp only [List.length_drop, List.length_take]; rfl)) ?_; (with_reducible refine (attrs_Read.calls (⟨#[32, 120, 61, 49, 32, 89, 61, 39, 38, 108, 116, 59, 39, 32, 122, 47, 62]⟩ : ByteArray) 0 t157 t158 t159 false _ A1.out ?_).mono ?_); (exact HG.out.below (by repeat (first | (with_reducible first | exact HB.out | apply below_alloc | apply pw_below_drewN | apply below_drew1) | exact HB.out))); rintro e w13 ⟨v161, rfl, ho0, hb⟩; refine ⟨_, rfl, ?_⟩; have n0_ := Aside0.mk (Kd.R_lower ho0 (below_size (by repeat (first | (with_reducible first | exact HB.out | apply below_alloc | apply pw_below_drewN | apply below_drew1) | exact HB.out)))); have n1_ := Aside0.mk (below_step (by repeat (first | (with_reducible first | exact HB.out | apply below_alloc | apply pw_below_drewN | apply below_drew1) | exact HB.out)) hb); clear HB; have HO162 := n0_; have HB := n1_; clear n0_ n1_; (try clear hb); (try clear hb2); (try clear hk); (try clear hi); (try clear ho0)))
  all_goals (first | (go_ret; exact ⟨by first | rfl | (simp [errW_none, errW_some] <;> rfl) | (simp [*, errW_none, errW_some] <;> rfl) | (rw [w64 (by omega) (by omega)]; done), by repeat (first | (with_reducible first | exact HB.out | apply below_alloc | apply pw_below_drewN | apply below_drew1) | exact HB.out)⟩) | (exfalso; omega) | (rename_i h_; exfalso; simp [*] at h_; done))

/-! ### flailref03_Space: function 25 -/
def flailref03_Space.f (a0 : Int) : Option (Bool) := if a0 = 9 then (some true) else (if a0 = 10 then (some true) else (if a0 = 12 then (some true) else (if a0 = 32 then (some true) else (some false))))
set_option maxHeartbeats 8000000 in
set_option maxRecDepth 100000 in
theorem flailref03_Space.calls (a0 : Int) (r : Bool) (w : World) (h : flailref03_Space.f a0 = some r) :
  Calls Tryz.prog 25 #[.int .u8 a0] w fun e w' => e = .returned (.bool r) ∧ Drawn0 w w' := by
 have H : (if a0 = 9 then (some true) else (if a0 = 10 then (some true) else (if a0 = 12 then (some true) else (if a0 = 32 then (some true) else (some false))))) = some r := h
 clear h
 by_cases c2 : a0 = 9
 ·
  rw [if_pos c2] at H
  have c2b0 : (a0 == 9) = true := beq_iff_eq.mpr c2
  have c2b1 : (a0 != 9) = false := bne_eq_false_iff_eq.mpr c2
  clear c2
  obtain rfl := Option.some.inj H
  go_enter Tryz.func25, Tryz.ntmps25
  go_wp2
  all_goals (first | (go_ret; exact ⟨by first | rfl | (simp; done) | (simp [*]; done), by repeat (first | exact Drawn0.refl _ | apply Drawn0.step)⟩) | (exfalso; omega) | (rename_i h_; exfalso; simp [*] at h_; done))
 ·
  rw [if_neg c2] at H
  have c2b0 : (a0 == 9) = false := beq_eq_false_iff_ne.mpr c2
  have c2b1 : (a0 != 9) = true := bne_iff_ne.mpr c2
  by_cases c3 : a0 = 10
  ·
   rw [if_pos c3] at H
   have c3b0 : (a0 == 10) = true := beq_iff_eq.mpr c3
   have c3b1 : (a0 != 10) = false := bne_eq_false_iff_eq.mpr c3
   clear c3
   obtain rfl := Option.some.inj H
   go_enter Tryz.func25, Tryz.ntmps25
   go_wp2
   all_goals (first | (go_ret; exact ⟨by first | rfl | (simp; done) | (simp [*]; done), by repeat (first | exact Drawn0.refl _ | apply Drawn0.step)⟩) | (exfalso; omega) | (rename_i h_; exfalso; simp [*] at h_; done))
  ·
   rw [if_neg c3] at H
   have c3b0 : (a0 == 10) = false := beq_eq_false_iff_ne.mpr c3
   have c3b1 : (a0 != 10) = true := bne_iff_ne.mpr c3
   by_cases c4 : a0 = 12
   ·
    rw [if_pos c4] at H
    have c4b0 : (a0 == 12) = true := beq_iff_eq.mpr c4
    have c4b1 : (a0 != 12) = false := bne_eq_false_iff_eq.mpr c4
    clear c4
    obtain rfl := Option.some.inj H
    go_enter Tryz.func25, Tryz.ntmps25
    go_wp2
    all_goals (first | (go_ret; exact ⟨by first | rfl | (simp; done) | (simp [*]; done), by repeat (first | exact Drawn0.refl _ | apply Drawn0.step)⟩) | (exfalso; omega) | (rename_i h_; exfalso; simp [*] at h_; done))
   ·
    rw [if_neg c4] at H
    have c4b0 : (a0 == 12) = false := beq_eq_false_iff_ne.mpr c4
    have c4b1 : (a0 != 12) = true := bne_iff_ne.mpr c4
    by_cases c5 : a0 = 32
    ·
     rw [if_pos c5] at H
     have c5b0 : (a0 == 32) = true := beq_iff_eq.mpr c5
     have c5b1 : (a0 != 32) = false := bne_eq_false_iff_eq.mpr c5
     clear c5
     obtain rfl := Option.some.inj H
     go_enter Tryz.func25, Tryz.ntmps25
     go_wp2
     all_goals (first | (go_ret; exact ⟨by first | rfl | (simp; done) | (simp [*]; done), by repeat (first | exact Drawn0.refl _ | apply Drawn0.step)⟩) | (exfalso; omega) | (rename_i h_; exfalso; simp [*] at h_; done))
    ·
     rw [if_neg c5] at H
     have c5b0 : (a0 == 32) = false := beq_eq_false_iff_ne.mpr c5
     have c5b1 : (a0 != 32) = true := bne_iff_ne.mpr c5
     obtain rfl := Option.some.inj H
     go_enter Tryz.func25, Tryz.ntmps25
     go_wp2
     all_goals (first | (go_ret; exact ⟨by first | rfl | (simp; done) | (simp [*]; done), by repeat (first | exact Drawn0.refl _ | apply Drawn0.step)⟩) | (exfalso; omega) | (rename_i h_; exfalso; simp [*] at h_; done))

/-! flailref03_Space, told over -/
def flailref03_Space_o.f (a0 : Int) : Option Bool := some (spaceI a0)
theorem flailref03_Space_o.sound (a0 : Int) (r : Bool) (h : flailref03_Space_o.f a0 = some r) : flailref03_Space.f a0 = some r := by
 rw [← h]; unfold flailref03_Space.f flailref03_Space_o.f spaceI
 by_cases h1 : a0 = 32 <;> by_cases h2 : a0 = 9 <;> by_cases h3 : a0 = 10 <;> by_cases h4 : a0 = 12 <;> simp [h1, h2, h3, h4]
set_option maxRecDepth 100000 in
theorem flailref03_Space_o.calls (a0 : Int) (r : Bool) (w : World) (h : flailref03_Space_o.f a0 = some r) :
  Calls Tryz.prog 25 #[.int .u8 a0] w fun e w' => e = .returned (.bool r) ∧ Drawn0 w w' := by
 have hk := flailref03_Space_o.sound _ _ h
 exact flailref03_Space.calls a0 r w hk

end
end Go.Proofs.YtodommehhcfccaaGreatDoor.P
