-- pruned2
/- Printed by a program of this session over the kit's print.py: functions of the Go program told as Lean functions, each with the proof that its call answers so. No conditions. -/
import Derived.Test.YtnohggejjlelhaaGreatDoorPx0
import Derived.Test.YtnohggejjlelhaaGreatDoorPx9
namespace Go.Proofs.YtnohggejjlelhaaGreatDoor.P
open Go.RowKit Go.Proofs.YtnohggejjlelhaaGreatDoor.G Go.Proofs.YtnohggejjlelhaaGreatDoorW.PrintWords Go.Proofs.YtnohggejjlelhaaGreatDoorW.PrintLast Go.Proofs.YtnohggejjlelhaaGreatDoorW.PrintMore
attribute [local go_sem high] G.str_leq G.str_gtr
attribute [local go_sem] max2_int min2_int max_two min_two max_three min_three max_four min_four   -- for this text's walks alone
set_option linter.unusedVariables false
set_option linter.unusedSimpArgs false
noncomputable section

/-! ### search_Longest: function 91 -/
mutual
def search_Longest.j0 : Nat → ByteArray → ByteArray → Int → Int → Bool → Option (Int)
  | 0, _, _, _, _, _ => none
  | k + 1, x0, x1, x2, x3, x19 => if x19 = true then (some 0) else (search_Longest.l0 k x0 x1 x2 (mn x3 (wrap64 ((x1.size : Int) - x2))))
def search_Longest.l0 : Nat → ByteArray → ByteArray → Int → Int → Option (Int)
  | 0, _, _, _, _ => none
  | k + 1, x0, x1, x2, x9 => if x9 > 0 then (if 0 ≤ x2 then (if x2 ≤ (wrap64 (x2 + x9)) then (if (wrap64 (x2 + x9)) ≤ (x1.size : Int) then ((search_Line.f x0 (x1.extract (x2 : Int).toNat ((wrap64 (x2 + x9)) : Int).toNat)).bind fun bt131 => (if bt131.2 = true then (some x9) else (search_Longest.l0 k x0 x1 x2 (wrap64 (x9 - 1))))) else (none)) else (none)) else (none)) else (some 0)
end
def search_Longest.f (k : Nat) (a0 : ByteArray) (a1 : ByteArray) (a2 : Int) (a3 : Int) : Option (Int) := if a2 < 0 then (search_Longest.j0 k a0 a1 a2 a3 true) else (search_Longest.j0 k a0 a1 a2 a3 (decide ((a1.size : Int) < a2)))
set_option maxHeartbeats 8000000 in
set_option maxRecDepth 100000 in
theorem search_Longest.calls (k : Nat) (a0 : ByteArray) (a1 : ByteArray) (a2 : Int) (a3 : Int) (r : Int) (w : World) (h : search_Longest.f k a0 a1 a2 a3 = some r) :
    Calls Tryz.prog 91 #[.string a0, .string a1, .int .i64 a2, .int .i64 a3] w fun e w' => e = .returned (.int .i64 r) ∧ Below w.heap.size w w' := by
  have HB := Aside0.mk (Below.refl w.heap.size w)
  have H : (if a2 < 0 then (search_Longest.j0 k a0 a1 a2 a3 true) else (search_Longest.j0 k a0 a1 a2 a3 (decide ((a1.size : Int) < a2)))) = some r := h
  clear h
  have HC5 := Aside0.mk H
  clear H
  go_enter Tryz.func91, Tryz.ntmps91
  go_upto_region 1 with (fail)
  go_cut [19] (fun v19 wc => ∃ (kq : Nat) (x19_4 : Bool), v19 = .bool x19_4 ∧ Aside0 (search_Longest.j0 kq a0 a1 a2 a3 x19_4 = some r) ∧ Aside0 (kq ≤ k) ∧ Aside0 (Below w.heap.size w wc))
  case first =>
    have H := HC5.out
    clear HC5
    by_cases c6 : a2 < 0
    · rw [if_pos c6] at H
      have c6b0 : decide (a2 < 0) = true := decide_eq_true c6
      clear c6
      (skip)
      have H' := Aside0.mk H
      clear H
      go_wp2
      go_meet
      case rel => (exact ⟨_, (true), (by rfl), H', ⟨by omega⟩, ⟨by repeat ((with_reducible exact HB.out))⟩⟩)
    · rw [if_neg c6] at H
      have c6b0 : decide (a2 < 0) = false := decide_eq_false c6
      clear c6
      (skip)
      have H' := Aside0.mk H
      clear H
      go_wp2
      go_meet
      case rel => (exact ⟨_, (decide ((a1.size : Int) < a2)), (by rfl), H', ⟨by omega⟩, ⟨by repeat ((with_reducible exact HB.out))⟩⟩)
  case rest =>
    clear HC5
    obtain ⟨kq, x19_4, rfl, HA, HJ4, HB⟩ := hcut
    cases kq with
    | zero => exact absurd HA.out (by simp [search_Longest.j0])
    | succ kj4 =>
      have H := HA.out
      clear HA
      simp only [search_Longest.j0] at H
      by_cases c7 : x19_4 = true
      · subst c7
        have H1 : (some 0) = some r := by rw [if_pos rfl] at H; exact H
        clear H
        have H := H1
        clear H1
        obtain rfl := Option.some.inj H
        go_wp2
        all_goals ((go_ret; exact ⟨by rfl, by repeat ((with_reducible exact HB.out))⟩))
      · replace c7 := Bool.eq_false_iff.mpr c7
        subst c7
        have H1 : (search_Longest.l0 kj4 a0 a1 a2 (mn a3 (wrap64 ((a1.size : Int) - a2)))) = some r := by rw [if_neg (show ¬ (false = true) by decide)] at H; exact H
        clear H
        have H := H1
        clear H1
        obtain ⟨ji8, hji8⟩ : ∃ j_ : Int, (mn a3 (wrap64 ((a1.size : Int) - a2))) = j_ := ⟨_, rfl⟩
        replace H : (search_Longest.l0 kj4 a0 a1 a2 ji8) = some r := by first | (rw [hji8] at H; exact H) | (simp only [hji8] at H ⊢; exact H)
        have hji8_ : (if (wrap64 ((a1.size : Int) - a2)) < a3 then (wrap64 ((a1.size : Int) - a2)) else a3) = ji8 := hji8
        have H' := Aside0.mk H
        clear H
        go_wp2
        go_loopg [9] kj4 (fun kq v9 w' => ∃ (x9_2 : Int), v9 = .int .i64 x9_2 ∧ Aside0 (search_Longest.l0 kq a0 a1 a2 x9_2 = some r) ∧ Aside0 (kq ≤ kj4) ∧ Aside0 (Below w.heap.size w w'))
        case atStart => exact ⟨(ji8), (by rfl), H', ⟨Nat.le_refl _⟩, ⟨by repeat ((with_reducible exact HB.out))⟩⟩
        case round =>
          clear H'
          obtain ⟨x9_2, rfl, HA, HK2, HB⟩ := hrel
          cases gk with
          | zero => exact absurd HA.out (by simp [search_Longest.l0])
          | succ k2 =>
            have H := HA.out
            clear HA
            simp only [search_Longest.l0] at H
            by_cases c9 : x9_2 > 0
            · rw [if_pos c9] at H
              have c9b0 : decide (0 < x9_2) = true := decide_eq_true c9
              clear c9
              by_cases c10 : 0 ≤ a2
              · rw [if_pos c10] at H
                have c10b0 := eq_true c10
                have c10b1 : decide (0 ≤ a2) = true := decide_eq_true c10
                clear c10
                by_cases c11 : a2 ≤ (wrap64 (a2 + x9_2))
                · rw [if_pos c11] at H
                  have c11b0 := eq_true c11
                  have c11b1 : decide (a2 ≤ (wrap64 (a2 + x9_2))) = true := decide_eq_true c11
                  by_cases c12 : (wrap64 (a2 + x9_2)) ≤ (a1.size : Int)
                  · rw [if_pos c12] at H
                    have c12b0 := eq_true c12
                    have c12b1 : decide ((wrap64 (a2 + x9_2)) ≤ (a1.size : Int)) = true := decide_eq_true c12
                    replace H := Option.bind_eq_some_iff.mp H
                    obtain ⟨⟨t131, t132⟩, A130, H⟩ := H
                    replace H : (if t132 = true then (some x9_2) else (search_Longest.l0 k2 a0 a1 a2 (wrap64 (x9_2 - 1)))) = some r := H
                    have A13 := Aside0.mk A130
                    clear A130
                    by_cases c14 : t132 = true
                    · subst c14
                      have H1 : (some x9_2) = some r := by rw [if_pos rfl] at H; exact H
                      clear H
                      have H := H1
                      clear H1
                      obtain rfl := Option.some.inj H
                      go_wp2_with (((with_reducible refine gate_callee (f := 92) rfl ?_); refine goesL_ (some 38) rfl rfl Tryz.func92 (by kernel_rfl) rfl #[.string a0, .string (a1.extract (a2 : Int).toNat ((wrap64 (a2 + x9_2)) : Int).toNat)] rfl (by (try simp only [List.map_toArray, List.map_cons, List.map_nil]); rfl) ?_; (with_reducible refine (search_Line.calls a0 (a1.extract (a2 : Int).toNat ((wrap64 (a2 + x9_2)) : Int).toNat) t131 true _ A13.out).mono ?_); rintro e w' ⟨rfl, ⟨nd, rfl⟩⟩; refine ⟨_, rfl, ?_⟩))
                      all_goals ((go_ret; exact ⟨by rfl, by repeat ((with_reducible first | exact HB.out | apply pw_below_drewN))⟩))
                    · replace c14 := Bool.eq_false_iff.mpr c14
                      subst c14
                      have H1 : (search_Longest.l0 k2 a0 a1 a2 (wrap64 (x9_2 - 1))) = some r := by rw [if_neg (show ¬ (false = true) by decide)] at H; exact H
                      clear H
                      have H := H1
                      clear H1
                      have H' := Aside0.mk H
                      clear H
                      go_wp2_with (((with_reducible refine gate_callee (f := 92) rfl ?_); refine goesL_ (some 38) rfl rfl Tryz.func92 (by kernel_rfl) rfl #[.string a0, .string (a1.extract (a2 : Int).toNat ((wrap64 (a2 + x9_2)) : Int).toNat)] rfl (by (try simp only [List.map_toArray, List.map_cons, List.map_nil]); rfl) ?_; (with_reducible refine (search_Line.calls a0 (a1.extract (a2 : Int).toNat ((wrap64 (a2 + x9_2)) : Int).toNat) t131 false _ A13.out).mono ?_); rintro e w' ⟨rfl, ⟨nd, rfl⟩⟩; refine ⟨_, rfl, ?_⟩))
                      go_roundg k2
                      case measure => have := HJ4.out; have := HK2.out; omega
                      case rel => (exact ⟨(wrap64 (x9_2 - 1)), (by rfl), H', ⟨by have := HJ4.out; have := HK2.out; omega⟩, ⟨by repeat ((with_reducible first | exact HB.out | apply pw_below_drewN))⟩⟩)
                  · rw [if_neg c12] at H
                    exact absurd H (by simp)
                · rw [if_neg c11] at H
                  exact absurd H (by simp)
              · rw [if_neg c10] at H
                exact absurd H (by simp)
            · rw [if_neg c9] at H
              have c9b0 : decide (0 < x9_2) = false := decide_eq_false c9
              clear c9
              obtain rfl := Option.some.inj H
              go_wp2
              all_goals ((go_ret; exact ⟨by rfl, by repeat ((with_reducible exact HB.out))⟩))

/-! search_Longest, told over -/
def longGo (t s : ByteArray) (p : Nat) : Nat → Option Int
  | 0 => some 0
  | n + 1 => (search_Line.f t (s.extract p (p + (n + 1)))).bind fun x => if x.2 = true then some ((n + 1 : Nat) : Int) else longGo t s p n
def search_Longest_o.f (a0 a1 : ByteArray) (a2 a3 : Int) : Option Int :=
  if a1.size ≤ 1099511627776 ∧ -9223372036854775808 ≤ a3 ∧ a3 ≤ 9223372036854775807 then (if a2 < 0 ∨ (a1.size : Int) < a2 then some 0 else longGo a0 a1 a2.toNat (min a3 ((a1.size : Int) - a2)).toNat) else none
theorem search_Longest.lem (t s : ByteArray) (p : Nat) (hs : s.size ≤ 1099511627776) (n : Nat) : ∀ k, n < k → p + n ≤ s.size → ∀ r, longGo t s p n = some r → search_Longest.l0 k t s (p : Int) (n : Int) = some r := by
  induction n with
  | zero =>
    intro k hk hp r h
    obtain ⟨K, rfl⟩ : ∃ m, k = m + 1 := ⟨k - 1, by omega⟩
    rw [search_Longest.l0, if_neg (by omega)]; exact h
  | succ n ih =>
    intro k hk hp r h
    obtain ⟨K, rfl⟩ : ∃ m, k = m + 1 := ⟨k - 1, by omega⟩
    rw [longGo] at h
    obtain ⟨x, hx, h⟩ := Option.bind_eq_some_iff.mp h
    rw [search_Longest.l0, if_pos (by omega), if_pos (by omega), w64 (x := (p : Int) + ((n + 1 : Nat) : Int)) (by omega) (by omega), if_pos (by omega), if_pos (by omega), Int.toNat_natCast, show ((p : Int) + ((n + 1 : Nat) : Int)).toNat = p + (n + 1) by omega, hx, Option.bind_some]
    by_cases c : x.2 = true
    · rw [if_pos c] at h ⊢; exact h
    · rw [if_neg c] at h ⊢
      rw [w64 (by omega) (by omega), show ((n + 1 : Nat) : Int) - 1 = (n : Int) by omega]
      exact ih K (by omega) (by omega) r h
theorem search_Longest_o.sound (a0 a1 : ByteArray) (a2 a3 : Int) (r : Int) (h : search_Longest_o.f a0 a1 a2 a3 = some r) : ∃ k, search_Longest.f k a0 a1 a2 a3 = some r := by
  unfold search_Longest_o.f at h
  split at h
  · rename_i hb
    obtain ⟨hs, h1, h2⟩ := hb
    refine ⟨a1.size + 3, ?_⟩
    rw [search_Longest.f]
    by_cases c : a2 < 0 ∨ (a1.size : Int) < a2
    · rw [if_pos c] at h
      by_cases c1 : a2 < 0
      · rw [if_pos c1, search_Longest.j0, if_pos rfl]; exact h
      · rw [if_neg c1, decide_eq_true (by omega), search_Longest.j0, if_pos rfl]; exact h
    · rw [if_neg c] at h
      rw [if_neg (by omega), decide_eq_false (by omega), search_Longest.j0, if_neg (by simp), w64 (by omega) (by omega)]
      obtain ⟨p, rfl⟩ := Int.eq_ofNat_of_zero_le (show 0 ≤ a2 by omega)
      rw [Int.toNat_natCast] at h
      have hm : mn a3 ((a1.size : Int) - (p : Int)) = min a3 ((a1.size : Int) - (p : Int)) := by unfold mn; split <;> omega
      rw [hm]
      by_cases c3 : min a3 ((a1.size : Int) - (p : Int)) ≤ 0
      · rw [show (min a3 ((a1.size : Int) - (p : Int))).toNat = 0 by omega] at h
        rw [search_Longest.l0, if_neg (by omega)]; exact h
      · obtain ⟨n, hn⟩ := Int.eq_ofNat_of_zero_le (show 0 ≤ min a3 ((a1.size : Int) - (p : Int)) by omega)
        rw [hn] at h ⊢
        rw [Int.toNat_natCast] at h
        exact search_Longest.lem a0 a1 p hs n _ (by omega) (by omega) r h
  · cases h
theorem search_Longest_o.text (rows : List Ln) (g : GoodLn rows) (hs : (textOf rows).length ≤ 1099511627776) (s : List UInt8) (p : Nat) (hp : p ≤ s.length) (n : Nat) : p + n ≤ s.length → longGo (bs (textOf rows)) (bs s) p n = some ((maxOf (isKey rows (s.drop p)) n : Nat) : Int) := by
  induction n with
  | zero => intro _; rfl
  | succ n ih =>
    intro h
    rw [longGo, extract_bs, show p + (n + 1) - p = n + 1 by omega, search_Line.text rows g _ hs, Option.bind_some, maxOf]
    have : (answer (lookR rows ((s.drop p).take (n + 1)))).2 = isKey rows (s.drop p) (n + 1) := by
      unfold isKey answer; cases lookR rows ((s.drop p).take (n + 1)) <;> rfl
    rw [this]
    by_cases c : isKey rows (s.drop p) (n + 1) = true
    · rw [if_pos c, if_pos c]
    · rw [if_neg c, if_neg c]; exact ih (by omega)
theorem search_Longest_o.is (rows : List Ln) (g : GoodLn rows) (hs : (textOf rows).length ≤ 1099511627776) (s : List UInt8) (p : Nat) (m : Int) (hp : p ≤ s.length) (hl : s.length ≤ 1099511627776) (h1 : -9223372036854775808 ≤ m) (h2 : m ≤ 9223372036854775807) :
    search_Longest_o.f (bs (textOf rows)) (bs s) (p : Int) m = some ((longest rows (s.drop p) m : Nat) : Int) := by
  rw [search_Longest_o.f, if_pos ⟨by rw [size_bs]; exact hl, h1, h2⟩, size_bs, if_neg (by omega), Int.toNat_natCast, search_Longest_o.text rows g hs s p hp _ (by omega), longest, List.length_drop, show ((s.length - p : Nat) : Int) = (s.length : Int) - (p : Int) by omega]
set_option maxRecDepth 100000 in
theorem search_Longest_o.calls (a0 : ByteArray) (a1 : ByteArray) (a2 : Int) (a3 : Int) (r : Int) (w : World) (h : search_Longest_o.f a0 a1 a2 a3 = some r) :
    Calls Tryz.prog 91 #[.string a0, .string a1, .int .i64 a2, .int .i64 a3] w fun e w' => e = .returned (.int .i64 r) ∧ Below w.heap.size w w' := by
  obtain ⟨k, hk⟩ := search_Longest_o.sound _ _ _ _ _ h
  exact search_Longest.calls k a0 a1 a2 a3 r w hk

/-! ### names_Longest: function 73 -/
def names_Longest.f (a0 : ByteArray) (a1 : Int) : Option (Int) := (search_Longest_o.f namesB a0 a1 32).bind fun t133 => (some t133)
set_option maxHeartbeats 8000000 in
set_option maxRecDepth 100000 in
theorem names_Longest.calls (a0 : ByteArray) (a1 : Int) (r : Int) (w : World) (h : names_Longest.f a0 a1 = some r) :
    Calls Tryz.prog 73 #[.string a0, .int .i64 a1] w fun e w' => e = .returned (.int .i64 r) ∧ Below w.heap.size w w' := by
  have HB := Aside0.mk (Below.refl w.heap.size w)
  have H : ((search_Longest_o.f namesB a0 a1 32).bind fun t133 => (some t133)) = some r := h
  clear h
  replace H := Option.bind_eq_some_iff.mp H
  obtain ⟨t133, A30, H⟩ := H
  replace H : (some t133) = some r := H
  have A3 := Aside0.mk A30
  clear A30
  obtain rfl := Option.some.inj H
  go_enter Tryz.func73, Tryz.ntmps73
  have fold_ := big73
  conv at fold_ => lhs; whnf
  rw [fold_]
  clear fold_
  go_wp2_with (((with_reducible refine gate_callee (f := 91) rfl ?_); refine goesL_ (some 7) rfl rfl Tryz.func91 (by kernel_rfl) rfl #[.string namesB, .string a0, .int .i64 a1, .int .i64 32] rfl (by (try simp only [List.map_toArray, List.map_cons, List.map_nil]); rfl) ?_; (with_reducible refine (search_Longest_o.calls namesB a0 a1 32 t133 _ A3.out).mono ?_); rintro e w4 ⟨rfl, hb⟩; refine ⟨_, rfl, ?_⟩; have n0_ := Aside0.mk (below_step (by repeat ((with_reducible exact HB.out))) hb); clear HB; have HB := n0_; clear n0_; (try clear hb)))
  all_goals ((go_ret; exact ⟨by rfl, by repeat ((with_reducible exact HB.out))⟩))

/-! names_Longest, told over -/
noncomputable def names_Longest_o.f (a0 : ByteArray) (a1 : Int) : Option Int := if a0.size ≤ 1099511627776 then some (longAt (lb a0) a1) else none
theorem names_Longest_o.sound (a0 : ByteArray) (a1 : Int) (r : Int) (h : names_Longest_o.f a0 a1 = some r) : names_Longest.f a0 a1 = some r := by
  unfold names_Longest_o.f at h
  split at h
  · rename_i hs
    rw [← h, names_Longest.f]
    unfold longAt
    by_cases c : 0 ≤ a1 ∧ a1 ≤ (lb a0).length
    · obtain ⟨p, rfl⟩ := Int.eq_ofNat_of_zero_le c.1
      rw [if_pos c]
      have := search_Longest_o.is rowsN rowsN_good rowsN_size (lb a0) p 32 (by omega) (by rw [length_lb]; exact hs) (by omega) (by omega)
      rw [rowsN_text, bs_lb] at this
      rw [this]; rfl
    · rw [if_neg c]
      rw [length_lb] at c
      rw [search_Longest_o.f, if_pos ⟨hs, by omega, by omega⟩, if_pos (by omega)]; rfl
  · cases h
set_option maxRecDepth 100000 in
theorem names_Longest_o.calls (a0 : ByteArray) (a1 : Int) (r : Int) (w : World) (h : names_Longest_o.f a0 a1 = some r) :
    Calls Tryz.prog 73 #[.string a0, .int .i64 a1] w fun e w' => e = .returned (.int .i64 r) ∧ Below w.heap.size w w' := by
  have hk := names_Longest_o.sound _ _ _ h
  exact names_Longest.calls a0 a1 r w hk

end
end Go.Proofs.YtnohggejjlelhaaGreatDoor.P
