/- Proved: whatever its arguments, the call of the law TokJoins returns true, and each argument reads behind the call as it read before. No conditions but the given row's own. -/
import Derived.Test.YtnohggejjlelhaaGreatDoorGHigh
import Derived.Test.YtnohggejjlelhaaGreatDoorRows
import Derived.Test.YtnohggejjlelhaaGreatDoorTie
import Derived.Test.YtnohggejjlelhaaGreatDoorCards
import Derived.Test.YtnohggejjlelhaaGreatDoorRX
import Derived.SevenTiedAt
import Derived.Test.YtnohggejjlelhaaGreatDoorPx35
import Derived.Test.YtnohggejjlelhaaGreatDoorRT
import Derived.WalkKit
import Derived.ProofKit
import Derived.OpenShut
import Derived.ShutString
import Derived.ChangeOld
import Derived.Below
import Derived.Carry
import Derived.SizedLaws
section
-- pruned2
/- Proved: what the printed function of the law TokJoins answers is true, for all arguments within the row's own bounds: over numbers and lists alone. No further conditions. -/
namespace Go.Proofs.YtnohggejjlelhaaGreatDoor.Pure
open Go.RowKit Go.Proofs.YtnohggejjlelhaaGreatDoor.P Go.Proofs.YtnohggejjlelhaaGreatDoor.G Go.Proofs.YtnohggejjlelhaaGreatDoorW.PrintWords Go.Proofs.YtnohggejjlelhaaGreatDoorW.PrintLast Go.Proofs.YtnohggejjlelhaaGreatDoorW.PrintMore
set_option linter.unusedVariables false
set_option linter.unusedSimpArgs false
theorem awake15 : flaillaw15_awake_o.f = some true := rfl
theorem mk_un (t : S28) : mkT (unT t) = t := by
  obtain ⟨a, b, c, d, e⟩ := t
  show (⟨a, bs (lb b), bs (lb c), EA (d.map pA), e⟩ : S28) = _
  have h : EA (d.map pA) = d := by
    unfold EA
    rw [List.map_map]
    exact (List.map_congr_left (fun x _ => by
      obtain ⟨y, z⟩ := x
      show (⟨bs (lb y), bs (lb z)⟩ : S45) = _
      rw [bs_lb, bs_lb]; rfl)).trans (List.map_id _)
  rw [bs_lb, bs_lb, h]
theorem mk_all (l : List S28) : (l.map unT).map mkT = l := by
  rw [List.map_map]
  exact (List.map_congr_left (fun x _ => mk_un x)).trans (List.map_id _)
theorem few_l0 (l : List S28) (hl : l.length ≤ 60) : ∀ (n i k : Nat), i + n = l.length → n < k → ∃ b, flailref15_Few.l0 k l (i : Int) = some b ∧ (b = true → ∀ t ∈ l.drop i, t.f1.size ≤ 60 ∧ t.f2.size ≤ 200 ∧ t.f3.length ≤ 10)
  | 0, i, k + 1, h, _ => by
    refine ⟨true, by rw [flailref15_Few.l0, if_neg (by omega)], fun _ t ht => ?_⟩
    rw [List.drop_of_length_le (by omega)] at ht; cases ht
  | n + 1, i, k + 1, h, hk => by
    have h0 : i < l.length := by omega
    rw [flailref15_Few.l0, if_pos (by omega), if_pos (by omega), rd_TT l i h0]
    by_cases c1 : (l[i].f1.size : Int) > 60
    · exact ⟨false, by rw [if_pos c1], fun z => by cases z⟩
    by_cases c2 : (l[i].f2.size : Int) > 200
    · exact ⟨false, by rw [if_neg c1, if_pos c2], fun z => by cases z⟩
    by_cases c3 : (l[i].f3.length : Int) > 10
    · exact ⟨false, by rw [if_neg c1, if_neg c2, if_pos c3], fun z => by cases z⟩
    obtain ⟨b, e, hb⟩ := few_l0 l hl n (i + 1) k (by omega) (by omega)
    refine ⟨b, by rw [if_neg c1, if_neg c2, if_neg c3, w64 (by omega) (by omega), show (i : Int) + 1 = ((i + 1 : Nat) : Int) by omega, e], fun z t ht => ?_⟩
    rw [List.drop_eq_getElem_cons h0] at ht
    rcases List.mem_cons.1 ht with rfl | ht
    · omega
    · exact hb z t ht
theorem texts_l0 (l : List S28) (hl : l.length ≤ 9223372036854775807) : ∀ (n i k : Nat), i + n = l.length → n < k → ∃ b, flailref15_Texts.l0 k l (i : Int) = some b ∧ (b = true → ∀ t ∈ l.drop i, t.f0 = 0 → t.f1.toList = [] ∧ t.f3 = [] ∧ t.f4 = false)
  | 0, i, k + 1, h, _ => by
    refine ⟨true, by rw [flailref15_Texts.l0, if_neg (by omega)], fun _ t ht => ?_⟩
    rw [List.drop_of_length_le (by omega)] at ht; cases ht
  | n + 1, i, k + 1, h, hk => by
    have h0 : i < l.length := by omega
    obtain ⟨b, e, hb⟩ := texts_l0 l hl n (i + 1) k (by omega) (by omega)
    have e2 : wrap64 ((i : Int) + 1) = ((i + 1 : Nat) : Int) := by rw [w64 (by omega) (by omega)]; omega
    rw [flailref15_Texts.l0, if_pos (by omega), if_pos (by omega), rd_TT l i h0, e2, e]
    have step : (l[i].f0 = 0 → l[i].f1.toList = [] ∧ l[i].f3 = [] ∧ l[i].f4 = false) → (b = true → ∀ t ∈ l.drop i, t.f0 = 0 → t.f1.toList = [] ∧ t.f3 = [] ∧ t.f4 = false) := by
      intro hh z t ht
      rw [List.drop_eq_getElem_cons h0] at ht
      rcases List.mem_cons.1 ht with rfl | ht
      · exact hh
      · exact hb z t ht
    by_cases c0 : l[i].f0 = 0
    · rw [if_pos c0]
      by_cases c1 : l[i].f1.toList = ([] : List UInt8)
      · rw [if_pos c1]
        by_cases c3 : (l[i].f3.length : Int) > 0
        · exact ⟨false, by rw [if_pos c3], fun z => by cases z⟩
        rw [if_neg c3]
        by_cases c4 : l[i].f4 = true
        · exact ⟨false, by rw [if_pos c4], fun z => by cases z⟩
        rw [if_neg c4]
        exact ⟨b, rfl, step (fun _ => ⟨c1, List.length_eq_zero_iff.1 (by omega), by simpa using c4⟩)⟩
      · exact ⟨false, by rw [if_neg c1], fun z => by cases z⟩
    · rw [if_neg c0]
      exact ⟨b, rfl, step (fun z => absurd z c0)⟩
theorem out_txO (out : List S28) (s : ByteArray) : out ++ (txO (lb s)).map mkT = if lb s = [] then out else out ++ [(⟨0, ⟨#[]⟩, s, [], false⟩ : S28)] := by
  unfold txO
  by_cases h : lb s = []
  · rw [if_pos h, if_pos h, List.map_nil, List.append_nil]
  · rw [if_neg h, if_neg h]
    show out ++ [(⟨0, bs [], bs (lb s), EA [], false⟩ : S28)] = _
    rw [bs_lb]; rfl
theorem join_l0 (l : List S28) (hl : l.length ≤ 60) (h2 : ∀ t ∈ l, t.f2.size ≤ 200) : ∀ (n i k : Nat) (out : List S28) (s : ByteArray), i + n = l.length → n < k → out.length ≤ i → s.size ≤ 200 * i → (s ≠ ⟨#[]⟩ → hdB ((l.map unT).drop i) = true) → flailref15_Join.l0 k l out s (i : Int) = some (out ++ (refJ ((l.map unT).drop i) (lb s)).map mkT)
  | 0, i, k + 1, out, s, h, _, _, _, hs => by
    rw [flailref15_Join.l0, if_neg (by omega), List.drop_of_length_le (by rw [List.length_map]; omega), refJ, List.map_nil, List.append_nil]
  | n + 1, i, k + 1, out, s, h, hk, ho, hz, hs => by
    have h0 : i < l.length := by omega
    have h0m : i < (l.map unT).length := by rw [List.length_map]; exact h0
    have e2 : wrap64 ((i : Int) + 1) = ((i + 1 : Nat) : Int) := by rw [w64 (by omega) (by omega)]; omega
    have hsz := h2 l[i] (List.getElem_mem h0)
    rw [flailref15_Join.l0, if_pos (by omega), if_pos (by omega), e2, rd_TT l i h0, List.drop_eq_getElem_cons h0m, List.getElem_map]
    have u1 : (unT l[i]).1 = l[i].f0 := rfl
    have u2 : (unT l[i]).2.2.1 = lb l[i].f2 := rfl
    rw [refJ, u1, u2, ← lb_append]
    have ns := fun out' (ho' : out'.length ≤ i + 1) => join_l0 l hl h2 n (i + 1) k out' ⟨#[]⟩ (by omega) (by omega) ho' (by show 0 ≤ _; omega) (fun z => absurd rfl z)
    have le : lb (⟨#[]⟩ : ByteArray) = [] := rfl
    rw [le] at ns
    by_cases c0 : l[i].f0 = 0
    · rw [if_pos c0, if_pos c0, if_pos (by omega)]
      have fin : (if (s ++ l[i].f2).toList = ([] : List UInt8) then flailref15_Join.l0 k l out ⟨#[]⟩ ((i + 1 : Nat) : Int) else (if out.length < 1954687338268 then flailref15_Join.l0 k l (out ++ [(⟨0, ⟨#[]⟩, s ++ l[i].f2, [], false⟩ : S28)]) ⟨#[]⟩ ((i + 1 : Nat) : Int) else none)) = some (out ++ (txO (lb (s ++ l[i].f2)) ++ refJ ((l.map unT).drop (i + 1)) []).map mkT) := by
        rw [List.map_append, ← List.append_assoc, out_txO, toList_lb]
        by_cases c : lb (s ++ l[i].f2) = []
        · rw [if_pos c, if_pos c, ns out (by omega)]
        · rw [if_neg c, if_neg c, if_pos (by omega), ns _ (by rw [List.length_append, List.length_singleton]; omega)]
      by_cases c1 : i + 1 < l.length
      · have hd : hdB ((l.map unT).drop (i + 1)) = decide (l[i + 1].f0 = 0) := by
          rw [List.drop_eq_getElem_cons (by rw [List.length_map]; exact c1), List.getElem_map]; rfl
        rw [if_pos (by omega), if_pos (by omega), rd_TT l (i + 1) c1]
        by_cases c2 : l[i + 1].f0 = 0
        · rw [if_pos c2, if_pos (show hdB ((l.map unT).drop (i + 1)) = true by rw [hd]; exact decide_eq_true c2)]
          exact join_l0 l hl h2 n (i + 1) k out (s ++ l[i].f2) (by omega) (by omega) (by omega) (by rw [ByteArray.size_append]; omega) (fun _ => by rw [hd]; exact decide_eq_true c2)
        · rw [if_neg c2, if_neg (show ¬ hdB ((l.map unT).drop (i + 1)) = true by rw [hd, decide_eq_true_eq]; exact c2)]
          exact fin
      · rw [if_neg (by omega), if_neg (show ¬ hdB ((l.map unT).drop (i + 1)) = true by rw [List.drop_of_length_le (by rw [List.length_map]; omega)]; decide)]
        exact fin
    · have s0 : s = ⟨#[]⟩ := by
        by_cases z : s = ⟨#[]⟩
        · exact z
        · have := hs z
          rw [List.drop_eq_getElem_cons h0m, List.getElem_map] at this
          exact absurd (of_decide_eq_true this) c0
      rw [if_neg c0, if_neg c0, if_pos (by omega), s0, ns _ (by rw [List.length_append, List.length_singleton]; omega), List.map_cons, mk_un, List.append_assoc]; rfl
def aprt : List TK → Prop
  | [] => True
  | t :: m => (t.1 = 0 → t.2.2.1 ≠ [] ∧ hdB m = false) ∧ aprt m
theorem refJ_hd (m : List TK) (h : hdB m = false) : hdB (refJ m []) = false := by
  cases m with
  | nil => rfl
  | cons t r =>
    have h0 : ¬ t.1 = 0 := of_decide_eq_false h
    rw [refJ, if_neg h0]
    exact h
theorem refJ_aprt : ∀ (l : List TK) (s : List UInt8), aprt (refJ l s)
  | [], s => trivial
  | t :: m, s => by
    rw [refJ]
    by_cases h0 : t.1 = 0
    · rw [if_pos h0]
      by_cases h1 : hdB m = true
      · rw [if_pos h1]; exact refJ_aprt m _
      · rw [if_neg h1]
        unfold txO
        split
        · exact refJ_aprt m []
        · rename_i hx
          exact ⟨fun _ => ⟨hx, refJ_hd m (by simpa using h1)⟩, refJ_aprt m []⟩
    · rw [if_neg h0]
      exact ⟨fun z => absurd z h0, refJ_aprt m []⟩
theorem refJ_just : ∀ (l : List TK) (s : List UInt8), justT l → justT (refJ l s)
  | [], s, _ => fun t ht => by cases ht
  | t :: m, s, h => by
    have hm : justT m := fun x hx => h x (List.mem_cons_of_mem _ hx)
    rw [refJ]
    by_cases h0 : t.1 = 0
    · rw [if_pos h0]
      by_cases h1 : hdB m = true
      · rw [if_pos h1]; exact refJ_just m _ hm
      · rw [if_neg h1]
        intro x hx
        rcases List.mem_append.1 hx with hx | hx
        · unfold txO at hx
          split at hx
          · cases hx
          · rw [List.mem_singleton.1 hx]; exact fun _ => rfl
        · exact refJ_just m [] hm x hx
    · rw [if_neg h0]
      intro x hx
      rcases List.mem_cons.1 hx with rfl | hx
      · exact h _ List.mem_cons_self
      · exact refJ_just m [] hm x hx
theorem refJ_self : ∀ (l : List TK), justT l → aprt l → refJ l [] = l
  | [], _, _ => rfl
  | t :: m, h, ha => by
    have hm : justT m := fun x hx => h x (List.mem_cons_of_mem _ hx)
    rw [refJ]
    by_cases h0 : t.1 = 0
    · have a0 := ha.1 h0
      rw [if_pos h0, if_neg (by rw [a0.2]; decide), List.nil_append, refJ_self m hm ha.2, txO, if_neg a0.1, ← h t List.mem_cons_self h0]; rfl
    · rw [if_neg h0, refJ_self m hm ha.2]
theorem aprt_at : ∀ (l : List TK) (i : Nat) (h : i + 1 < l.length), aprt l → l[i].1 = 0 → l[i + 1].1 = 0 → False
  | [], i, h, _, _, _ => by simp at h
  | t :: [], i, h, _, _, _ => by simp at h
  | t :: y :: m, 0, h, ha, h1, h2 => by
    have := (ha.1 h1).2
    exact of_decide_eq_false this h2
  | t :: y :: m, i + 1, h, ha, h1, h2 => aprt_at (y :: m) i (by simp at h ⊢; omega) ha.2 h1 h2
theorem sumT_few : ∀ (l : List S28) (N : Nat), (∀ t ∈ l, t.f2.size ≤ N) → sumT l ≤ l.length * N
  | [], N, _ => Nat.zero_le _
  | t :: m, N, h => by
    have h1 := sumT_few m N (fun x hx => h x (List.mem_cons_of_mem _ hx))
    have h2 := h t List.mem_cons_self
    have e : sumT (t :: m) = t.f2.size + sumT m := rfl
    rw [e, List.length_cons, Nat.add_mul, Nat.one_mul]; omega
theorem joins_l0 (l : List S28) (X : List TK) (hx : aprt X) (hX : X.length ≤ 60) (hl : l.length ≤ 60) (fin : ∀ k, 62 < k → ((flailref15_Join.f k l).bind fun t321 => ((flailref09_All_o.f (X.map mkT) t321).bind fun t324 => (if t324 = true then ((tok_Join.f (X.map mkT)).bind fun t325 => ((flailref09_All_o.f t325 (X.map mkT)).bind fun t328 => (some t328))) else (some false)))) = some true) : ∀ (n i k : Nat), X.length ≤ i + n → i ≤ 61 → 0 < i → n + 63 < k → flaillaw15_TokJoins.l0 k l true (X.map mkT) (i : Int) = some true
  | n, i, 0, _, _, _, hk => by omega
  | 0, i, k + 1, h, _, hi, hk => by
    rw [flaillaw15_TokJoins.l0, if_neg (by rw [List.length_map]; omega), if_pos rfl]
    exact fin k (by omega)
  | n + 1, i, k + 1, h, hi1, hi, hk => by
    rw [flaillaw15_TokJoins.l0]
    by_cases c : i < X.length
    · have e1 : wrap64 ((i : Int) + 1) = ((i + 1 : Nat) : Int) := by rw [w64 (by omega) (by omega)]; omega
      have e2 : wrap64 ((i : Int) - 1) = ((i - 1 : Nat) : Int) := by rw [w64 (by omega) (by omega)]; omega
      have next := joins_l0 l X hx hX hl fin n (i + 1) k (by omega) (by omega) (by omega) (by omega)
      rw [if_pos (by rw [List.length_map]; omega), if_pos (by omega), e1, e2, rd_TT _ i (by rw [List.length_map]; exact c), rd_TT _ (i - 1) (by rw [List.length_map]; omega), List.getElem_map, List.getElem_map, next]
      have q : ∀ x : TK, (mkT x).f0 = x.1 := fun _ => rfl
      rw [q, q]
      by_cases c0 : X[i].1 = 0
      · rw [if_pos c0, if_pos (by omega), if_pos (by rw [List.length_map]; omega)]
        by_cases c1 : X[i - 1].1 = 0
        · exfalso
          obtain ⟨j, rfl⟩ : ∃ j, i = j + 1 := ⟨i - 1, by omega⟩
          exact aprt_at X j c hx (by simpa using c1) c0
        · rw [if_neg c1]
      · rw [if_neg c0]
    · rw [if_neg (by rw [List.length_map]; omega), if_pos rfl]
      exact fin k (by omega)
theorem TokJoins : ∀ l : List S28, l.length ≤ 9223372036854775807 → ∃ k, flaillaw15_TokJoins.f k l = some true := by
  intro l hbig
  by_cases cl : (l.length : Int) > 60
  · obtain ⟨b, e, _⟩ := texts_l0 l hbig l.length 0 (l.length + 1) (by omega) (by omega)
    refine ⟨l.length + 1, ?_⟩
    rw [flaillaw15_TokJoins.f, awake15, Option.bind_some, flailref15_Few.f, if_pos cl, Option.bind_some, flailref15_Texts.f, show (0 : Int) = ((0 : Nat) : Int) from rfl, e, Option.bind_some, if_neg (by decide), flaillaw15_TokJoins.j0, if_pos rfl]
  have hl : l.length ≤ 60 := by omega
  obtain ⟨bf, ef, hf⟩ := few_l0 l hl l.length 0 200 (by omega) (by omega)
  obtain ⟨bt', et, ht⟩ := texts_l0 l (by omega) l.length 0 200 (by omega) (by omega)
  rw [List.drop_zero] at hf ht
  refine ⟨200, ?_⟩
  rw [flaillaw15_TokJoins.f, awake15, Option.bind_some, flailref15_Few.f, if_neg cl, show (0 : Int) = ((0 : Nat) : Int) from rfl, ef, Option.bind_some, flailref15_Texts.f, show (0 : Int) = ((0 : Nat) : Int) from rfl, et, Option.bind_some]
  by_cases cf : bf = false
  · rw [cf, if_neg (by decide), flaillaw15_TokJoins.j0, if_pos rfl]
  replace cf : bf = true := by simpa using cf
  rw [if_pos cf]
  by_cases ct : bt' = false
  · rw [ct, flaillaw15_TokJoins.j0, if_pos (by rfl)]
  replace ct : bt' = true := by simpa using ct
  rw [ct, flaillaw15_TokJoins.j0, if_neg (by decide)]
  have hF := hf cf
  have hT := ht ct
  obtain ⟨L, hL⟩ : ∃ L, l.map unT = L := ⟨_, rfl⟩
  have lL : l = L.map mkT := by rw [← hL, mk_all]
  have hj : justT L := by
    intro t h h0
    rw [← hL] at h
    obtain ⟨x, hx, rfl⟩ := List.mem_map.1 h
    obtain ⟨z1, z2, z3⟩ := hT x hx h0
    rw [toList_lb] at z1
    show (x.f0, lb x.f1, lb x.f2, x.f3.map pA, x.f4) = (0, [], lb x.f2, [], false)
    rw [z1, z2, z3, show x.f0 = 0 from h0]; rfl
  have lenL : L.length = l.length := by rw [← hL, List.length_map]
  have hs2 : ∀ t ∈ l, t.f2.size ≤ 200 := fun t h => (hF t h).2.1
  have jl : tok_Join.f l = some ((joinT L).map mkT) := by
    have := sumT_few l 200 hs2
    have h3 : l.length * 200 ≤ 60 * 200 := Nat.mul_le_mul hl (Nat.le_refl _)
    rw [tok_Join.f, if_pos ⟨by omega, by omega⟩]
    have := join_mk L []
    rw [← lL] at this
    exact congrArg some this
  have jJ : joinT L = refJ L [] := refJ_join L hj
  have ap : aprt (joinT L) := by rw [jJ]; exact refJ_aprt L []
  have ju : justT (joinT L) := by rw [jJ]; exact refJ_just L [] hj
  have jj : joinT (joinT L) = joinT L := by rw [refJ_join _ ju]; exact refJ_self _ ju ap
  have jn : (joinT L).length ≤ 60 := by have := joinT_len L; omega
  have ja : ∀ t ∈ joinT L, t.2.2.2.1.length ≤ 100000 := by
    refine foldS_att (N := 100000) L [] (fun x hx => ?_) (fun x hx => by cases hx)
    rw [← hL] at hx
    obtain ⟨y, hy, rfl⟩ := List.mem_map.1 hx
    show (y.f3.map pA).length ≤ _
    have := (hF y hy).2.2
    rw [List.length_map]; omega
  have jm : tok_Join.f ((joinT L).map mkT) = some ((joinT L).map mkT) := by
    have q : ∀ x ∈ (joinT L).map mkT, x.f2.size ≤ 12000 := by
      have q1 : ((joinT L).map mkT) = jN l l.length := by
        have := join_mk L []
        rw [← lL] at this
        rw [jN_all]; exact this.symm
      intro x hx
      rw [q1] at hx
      have q2 := jN_sum l l.length (Nat.le_refl _) x hx
      have q3 := sumT_le l l.length
      have q4 := sumT_few l 200 hs2
      have h3 : l.length * 200 ≤ 60 * 200 := Nat.mul_le_mul hl (Nat.le_refl _)
      omega
    have q5 := sumT_few _ 12000 q
    have h3 : ((joinT L).map mkT).length * 12000 ≤ 60 * 12000 := Nat.mul_le_mul (by rw [List.length_map]; exact jn) (Nat.le_refl _)
    rw [tok_Join.f, if_pos ⟨by rw [List.length_map]; omega, by omega⟩]
    have := join_mk (joinT L) []
    exact congrArg some (this.trans (by
      have : (joinT L).foldl joinS [] = joinT (joinT L) := rfl
      rw [this, jj]))
  rw [jl, Option.bind_some, show (1 : Int) = ((1 : Nat) : Int) from rfl]
  refine joins_l0 l (joinT L) ap jn hl (fun k hk => ?_) 60 1 199 (by omega) (by omega) (by omega) (by omega)
  have jr : flailref15_Join.f k l = some ((joinT L).map mkT) := by
    have := join_l0 l hl hs2 l.length 0 k [] ⟨#[]⟩ (by omega) (by omega) (Nat.le_refl _) (Nat.zero_le _) (fun z => absurd rfl z)
    rw [List.drop_zero, hL, List.nil_append] at this
    rw [jJ]; exact this
  rw [jr, Option.bind_some, all_self _ _ (by omega) ja rfl, Option.bind_some, if_pos rfl, jm, Option.bind_some, all_self _ _ (by omega) ja rfl]; rfl
end Go.Proofs.YtnohggejjlelhaaGreatDoor.Pure
end
namespace Go.Proofs.YtnohggejjlelhaaGreatDoor.tokJoins
open Go.ChangeShapes Go.WideShapes Go.ChangeAt Go.RowKit
open Go.ChangeMaps (open_string shut_string)
set_option linter.unusedVariables false
theorem own : ownKnob Tryz.prog.godebug = none := by kernel_rfl
theorem laidOut : laidOutB Tryz.prog = true := by kernel_rfl
set_option maxRecDepth 100000 in
theorem lifted (os : Os) (started : os.Started) (H : Type) (enc : TypeId × Value → H) :
    ReturnsInHanded {} Tryz.checked os 3 .any (fun w args => (Rows.tokJoinsSpec.pre enc Tryz.prog Tryz.f3 Rows.tokJoinsRow.domain false w args ∧ laidMetH Tryz.prog G.laidL w) ∧ sizedMet enc Tryz.prog Tryz.f3 (OpenSpec.ofChange Rows.tokJoinsSpec) false w args) (Rows.tokJoinsSpec.post enc Tryz.prog Tryz.f3 false true false false) := by
  refine G.returns_laid (C := Tryz.checked) (X := fun w _ => laidMetH Tryz.prog G.laidL w) (fun _ _ _ hh h => h.of_heap hh) own started (by kernel_rfl) Tryz.func3
    (ChangeSpec.witness_shaped (enc := enc) (C := Tryz.checked) (os := os) (X := fun w _ => laidMetH Tryz.prog G.laidL w) false (World.laidAll Tryz.prog os G.laidL) #[.slice none 0 0] 8 (World.laidAll_os _ _ _) (G.door_shaped os _) (by kernel_rfl) (by kernel_rfl) (by kernel_rfl) (G.door_met os _)) ?_
  intro W base args ds gs before hval0 hW hcnd hsz0 hL hSh _
  have hsz : (DataW.weightsEach Tryz.prog (Tryz.f3.params.toList ++ Rows.tokJoinsSpec.plain.varTypes Tryz.prog) (ds ++ gs)).all (· ≤ reachBytes) = true := hsz0
  have hval : ∀ (j : Nat) t v, Tryz.f3.params[j]? = some t → args[j]? = some v → Value.okWide Tryz.prog W .any base t v := hval0
  have hW' := hW
  obtain ⟨p, q, hA0, hV, rfl, hfz, hnd⟩ := hW
  have hA : DataW.TrodAll enc Tryz.prog W 0 (fun _ => true) true Tryz.f3.params.toList args.toList ds p := hA0
  rw [Tryz.params3] at hA hval hsz
  obtain ⟨v0, vs0, d0, ds0, p0, q0, hargs, rfl, rfl, h0, r0⟩ := trodAll_cons hA
  obtain ⟨rfl, rfl, rfl⟩ := trodAll_nil r0
  obtain rfl : args = #[v0] := by cases args; simp_all
  obtain ⟨rfl, rfl⟩ := trodVars_none hV
  obtain ⟨a0, len0, cap0, rfl⟩ := okWide_slice Tryz.underlying22 (hval 0 22 v0 rfl rfl)
  have k0 := h0
  have lt0 : ∀ x ∈ p0, x.block < W.heap.size := by obtain ⟨m, hm⟩ := k0; exact DataW.trod_lt m _ _ _ hm
  obtain ⟨l0, hl0, hc0, hr0⟩ := P.open_toks h0
  subst hl0
  clear hA0 hval0 hsz0 hsz
  obtain ⟨k, h⟩ := Pure.TokJoins l0 hr0.2.1
  refine (P.flaillaw15_TokJoins.calls k a0 cap0 l0 true W hr0 hc0 h (G.gw_of_laid hL hSh)).mono fun e W' ⟨he, bel⟩ => ?_
  subst he
  exact ⟨_, rfl, _, _, _, [], _, [], hW', trodAll_mk1 (shut_bool Tryz.underlying4 _), (trodAll_cons_mk (Below.trod laidOut (by kernel_rfl) (of_decide_eq_true (by kernel_rfl)) k0 bel lt0) trodAll_mk0), rfl, bel.frame _, fun h => by cases h⟩
theorem over : Rows.tokJoinsRow.holds Tryz.pinned (OpenSpec.ofChange Rows.tokJoinsSpec) :=
  OpenClaim.holds_of_wide 3 Tryz.f3 rfl rfl rfl rfl rfl rfl rfl ⟨rfl, rfl, rfl, rfl, rfl⟩ rfl rfl rfl rfl rfl (by kernel_rfl) Tryz.func3 (by kernel_rfl)
    (of_decide_eq_true (by kernel_rfl)) (by unfold Func.isWrapper; first | (rw [if_pos (by decide +kernel)]; kernel_rfl) | (rw [if_neg (by decide +kernel)]; exact ⟨rfl, rfl⟩))
    (fun os started H enc _ => lifted os started H enc)
theorem tied : Rows.TokJoinsCardSaid :=
  Claim7.holds_tied_plain_at .later [] [.data, .data, .data, .data, .sentinel, .sentinel, .pinned] true (true, "1479fa41bbf6e00392bcfc3b558e117e574703077defa8ac5aabc0471bcc0a03") true
    over (fun _ h => by cases h) (by kernel_rfl) (fun _ h => by cases h) tokJoins_row_tie rfl ⟨rfl, rfl⟩ (by kernel_rfl) rfl
    (fun f fn hf hfn => by
      obtain rfl : f = 3 := Option.some.inj ((show Tryz.prog.funcNamed "flail/flaillaw15.TokJoins" = some 3 by kernel_rfl).symm.trans hf) |>.symm
      obtain rfl : fn = Tryz.f3 := (Option.some.inj (Tryz.func3.symm.trans hfn)).symm
      exact ⟨by kernel_rfl, fun j t ht => by
        rw [Tryz.params3] at ht
        have hall : (Tryz.f3.params.toList.all fun u => !Tryz.prog.wantsStandIn u) = true := by kernel_rfl
        rw [Tryz.params3] at hall
        have hm := Array.mem_of_getElem? ht
        exact (show Tryz.prog.wantsStandIn t = false by simpa using List.all_eq_true.1 hall t (by simpa using hm))⟩)
    (by kernel_rfl)
#print axioms tied
end Go.Proofs.YtnohggejjlelhaaGreatDoor.tokJoins
namespace Go.Proofs.YtnohggejjlelhaaGreatDoor
/-- The card, under a short name, for the claim. -/
theorem tokJoins_holds : Rows.TokJoinsCardSaid := tokJoins.tied
end Go.Proofs.YtnohggejjlelhaaGreatDoor
