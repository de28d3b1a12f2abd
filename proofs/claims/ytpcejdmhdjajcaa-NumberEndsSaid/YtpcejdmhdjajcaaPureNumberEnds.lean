/- Proved: what the printed function of the law NumberEnds answers is true, for all arguments within the row's own bounds: over numbers and lists alone. No further conditions. -/
import Derived.Test.YtpcejdmhdjajcaaPx18
import Derived.Test.YtpcejdmhdjajcaaGM
namespace Go.Proofs.Ytpcejdmhdjajcaa.Pure
open Go.RowKit Go.Proofs.Ytpcejdmhdjajcaa.P Go.Proofs.Ytpcejdmhdjajcaa.G Go.Proofs.YtpcejdmhdjajcaaW.PrintWords Go.Proofs.YtpcejdmhdjajcaaW.PrintLast Go.Proofs.YtpcejdmhdjajcaaW.PrintMore
set_option linter.unusedVariables false
set_option linter.unusedSimpArgs false
theorem awake : flaillaw04_awake.f = some true := by decide +kernel
theorem scan_take (six : Bool) (l : List UInt8) (n : Nat) (h : numScan six l ≤ n) : numScan six (l.take n) = numScan six l := by
  unfold numScan at *
  induction l generalizing n with
  | nil => simp
  | cons c l ih =>
    cases n with
    | zero => 
      rw [List.takeWhile_cons] at h ⊢
      split at h
      · simp at h
      · rename_i hc; rw [if_neg hc]; rfl
    | succ n =>
      rw [List.take_succ_cons, List.takeWhile_cons, List.takeWhile_cons]
      rw [List.takeWhile_cons] at h
      split
      · rename_i hc; rw [if_pos hc] at h; simp at h ⊢; exact ih n h
      · rfl
/-- What is read is read again of its own bytes; behind it no digit stands. -/
theorem reads (l : List UInt8) (p : Nat) (hp : p ≤ l.length) (text : ByteArray) (next : Int) (h : numL l p = (text, next, true)) :
    ∃ e : Nat, next = e ∧ p + 1 < e ∧ e ≤ l.length ∧ numL (l.take e) p = (text, next, true) ∧ (at_ l (e - 1) = 59 ∨ e = l.length ∨ ¬ (digitI (at_ l e) = true ∨ at_ l e = 59)) ∧ 1 ≤ text.size ∧ text.size ≤ 4 := by
  unfold numL at h
  split at h
  · rename_i hc
    rw [Int.toNat_natCast] at h hc
    generalize hsix : decide (p + 1 < l.length ∧ (at_ l (p + 1) = 120 ∨ at_ l (p + 1) = 88)) = six at h
    generalize hq : (if six = true then p + 2 else p + 1) = q at h
    simp only [hq] at h
    have hql : q ≤ l.length ∧ p + 1 ≤ q := by
      subst hq; subst hsix
      split
      · rename_i a; simp at a; omega
      · omega
    have hm := numScan_le six (l.drop q)
    rw [List.length_drop] at hm
    generalize hM : numScan six (l.drop q) = m at h hm
    have hm0 : 0 < m := by
      rcases Nat.eq_zero_or_pos m with h0 | h0
      · subst h0
        unfold numEnd at h
        rw [show q + 0 - q = 0 by omega, List.take_zero] at h
        rw [if_pos (by unfold valL; simp)] at h
        simp at h
      · exact h0
    unfold numEnd at h
    generalize hB : (if six = true then (16 : Int) else 10) = B at h
    split at h
    · simp at h
    rename_i hv
    rw [show q + m - q = m by omega] at hv h
    have hst : q + m < l.length → isDig six (at_ l (q + m)) = false := by
      intro hlt
      have : ∀ (l : List UInt8), numScan six l = m → m < l.length → isDig six (at_ l m) = false := by
        clear hM hm hm0 h hv hlt
        intro l
        induction m generalizing l with
        | zero =>
          intro h1 h2
          cases l with
          | nil => simp at h2
          | cons c l =>
            unfold numScan at h1
            rw [List.takeWhile_cons] at h1
            split at h1
            · simp at h1
            · rename_i hc; simpa [at_] using hc
        | succ m ih =>
          intro h1 h2
          cases l with
          | nil => simp at h2
          | cons c l =>
            unfold numScan at h1
            rw [List.takeWhile_cons] at h1
            split at h1
            · have := ih l (by unfold numScan; simpa using h1) (by simpa using h2)
              simpa [at_] using this
            · simp at h1
      have h2 := this (l.drop q) hM (by simp; omega)
      have e : at_ (l.drop q) m = at_ l (q + m) := by unfold at_; simp [List.getD_eq_getElem?_getD]
      rw [e] at h2; exact h2
    have hf := fixS_size (valL B ((l.drop q).take m))
    have key : ∀ e : Nat, q + m ≤ e → e ≤ l.length → (q + m < e → at_ l (q + m) = 59) → e ≤ q + m + 1 → numL (l.take e) p = (fixS (valL B ((l.drop q).take m)), (e : Int), true) := by
      intro e h1 h2 h3 h4
      have hat : ∀ i, i < e → at_ (l.take e) i = at_ l i := by intro i hi; unfold at_; simp [List.getD_eq_getElem?_getD, hi]
      have hlen : (l.take e).length = e := by simp; omega
      unfold numL
      rw [Int.toNat_natCast, if_pos ⟨by omega, by omega, by rw [hat p (by omega)]; exact hc.2.2⟩]
      have s2 : decide (p + 1 < (l.take e).length ∧ (at_ (l.take e) (p + 1) = 120 ∨ at_ (l.take e) (p + 1) = 88)) = six := by
        rw [← hsix, hlen, hat (p + 1) (by omega)]
        congr 1; apply propext
        constructor
        · rintro ⟨a, b⟩; exact ⟨by omega, b⟩
        · rintro ⟨a, b⟩; exact ⟨by omega, b⟩
      rw [s2]
      simp only [hq]
      have e1 : (l.take e).drop q = (l.drop q).take (e - q) := by rw [List.drop_take]
      have e2 : numScan six ((l.take e).drop q) = m := by rw [e1, scan_take six _ _ (by omega), hM]
      have e3 : ((l.take e).drop q).take m = (l.drop q).take m := by rw [e1, List.take_take, Nat.min_eq_left (by omega)]
      rw [e2]
      unfold numEnd
      rw [hB, show q + m - q = m by omega, e3, if_neg hv, hlen]
      by_cases h5 : q + m < e
      · rw [if_pos ⟨h5, by rw [hat _ h5]; exact h3 h5⟩, show (e : Int) = ((q + m : Nat) : Int) + 1 by omega]
      · rw [if_neg (fun a => h5 a.1), show (e : Int) = ((q + m : Nat) : Int) by omega]
    split at h
    · rename_i hsemi
      have ha : fixS (valL B (List.take m (List.drop q l))) = text := congrArg Prod.fst h
      have hb := congrArg (fun x => x.2.1) h
      simp only [] at hb
      subst ha; subst hb
      refine ⟨q + m + 1, by omega, by omega, by omega, ?_, .inl (by simpa using hsemi.2), hf.1, hf.2⟩
      have := key (q + m + 1) (by omega) (by omega) (fun _ => hsemi.2) (by omega)
      rw [this]; simp
    · rename_i hsemi
      have ha : fixS (valL B (List.take m (List.drop q l))) = text := congrArg Prod.fst h
      have hb := congrArg (fun x => x.2.1) h
      simp only [] at hb
      subst ha; subst hb
      refine ⟨q + m, rfl, by omega, by omega, key (q + m) (by omega) (by omega) (by omega) (by omega), .inr ?_, hf.1, hf.2⟩
      by_cases hend : q + m = l.length
      · exact .inl hend
      · right
        have h1 := hst (by omega)
        rintro (h2 | h2)
        · rw [isDig_digit _ h2] at h1; cases h1
        · exact hsemi ⟨by omega, h2⟩
  · simp at h
theorem none_ (l : List UInt8) (p next : Int) (text : ByteArray) (hn : numL l p = (text, next, false)) : text = bs [] ∧ next = p := by
  have h : ∀ six q e, numEnd l p six q e = (text, next, false) → text = bs [] ∧ next = p := by
    intro six q e h
    unfold numEnd at h
    generalize hB : (if six = true then (16 : Int) else 10) = B at h
    split at h
    · simp at h; exact ⟨h.1.symm, h.2.symm⟩
    · simp at h
  unfold numL at hn
  by_cases c : 0 ≤ p ∧ p < l.length ∧ at_ l p.toNat = 35
  · rw [if_pos c] at hn; exact h _ _ _ hn
  · rw [if_neg c] at hn; simp at hn; exact ⟨hn.1.symm, hn.2.symm⟩
theorem NumberEnds : flaillaw04_NumberEnds.Pure := by
  intro a0 a1 h0 h1
  obtain ⟨h2, h3⟩ := wf_u16 h1
  refine ⟨2, ?_⟩
  rw [flaillaw04_NumberEnds.f, awake, Option.bind_some]
  by_cases c1 : (a0.size : Int) > 300
  · rw [if_pos c1]
  rw [if_neg c1, w64 (x := (a0.size : Int) + 1) (by omega) (by omega), if_neg (by omega)]
  obtain ⟨k, hk, ek⟩ := modk a1 ((a0.size : Int) + 1) h2 (by omega) (by omega) (by omega)
  rw [ek, number_Read_o.f, if_pos ⟨by omega, by omega, by omega⟩, Option.bind_some]
  have hsz : a0.size = (lb a0).length := size_lb a0
  cases hn : numL (lb a0) k with
  | mk text b =>
    obtain ⟨next, is⟩ := b
    cases is
    · simp only [Bool.false_eq_true, if_false, if_true]
      have : text = bs [] ∧ next = k := by
        exact none_ _ _ _ _ hn
      rw [if_pos this.2, this.1]; simp [lb_bs, bs_lb, toList_lb, lb_append, length_lb, size_bs, lb_mk, low_length, low_append, low_low, size_lowS, lb_lowS]
    · simp only [if_true]
      obtain ⟨e, rfl, he1, he2, he3, he4, he5, he6⟩ := reads (lb a0) k (by omega) text next hn
      have hex : lb (a0.extract 0 (e : Int).toNat) = (lb a0).take e := by simp [lb_bs, bs_lb, toList_lb, lb_append, length_lb, size_bs, lb_mk, low_length, low_append, low_low, size_lowS, lb_lowS, lb_extract]
      have fin : (number_Read_o.f (a0.extract 0 (e : Int).toNat) (k : Int)).bind (fun bt279 => (if true = true then (if bt279.2.2 = true then (if bt279.1.toList = text.toList then (if bt279.2.1 = (e : Int) then (if (text.size : Int) ≥ 1 then (some (decide ((text.size : Int) ≤ 4))) else (some false)) else (some false)) else (some false)) else (some false)) else (some false))) = some true := by
        rw [number_Read_o.f, if_pos ⟨by simp; omega, by omega, by omega⟩, Option.bind_some, hex, he3]
        rw [if_pos rfl, if_pos rfl, if_pos rfl, if_pos rfl, if_pos (by omega), decide_eq_true (by omega)]
      rw [w64 (by omega) (by omega), if_neg (by omega), decide_eq_false (by omega), flaillaw04_NumberEnds.j0, if_neg (by simp), w64 (by omega) (by omega), if_pos (by omega), if_pos (by omega)]
      have eb : ∀ i : Nat, bt a0 (i : Int) = at_ (lb a0) i := fun i => by rw [bt_lb]; rfl
      rw [show (e : Int) - 1 = ((e - 1 : Nat) : Int) by omega, eb]
      have j1f : flaillaw04_NumberEnds.j1 1 a0 true (k : Int) text (e : Int) false = some true := by
        rw [flaillaw04_NumberEnds.j1, if_neg (by simp), if_pos (by omega), if_pos (by omega)]; exact fin
      by_cases c2 : at_ (lb a0) (e - 1) = 59
      · rw [if_pos c2]; exact j1f
      rw [if_neg c2]
      by_cases c3 : (e : Int) < (a0.size : Int)
      · rw [decide_eq_true c3]
        have hd : ¬ (digitI (at_ (lb a0) e) = true ∨ at_ (lb a0) e = 59) := by
          rcases he4 with h | h | h
          · exact absurd h c2
          · omega
          · exact h
        rw [flaillaw04_NumberEnds.j1, if_pos rfl, if_pos (by omega), if_pos c3, eb]
        have hdig : digitI (at_ (lb a0) e) = true ↔ 48 ≤ at_ (lb a0) e ∧ at_ (lb a0) e ≤ 57 := by unfold digitI; simp
        by_cases c4 : at_ (lb a0) e ≥ 48
        · rw [if_pos c4]
          by_cases c5 : at_ (lb a0) e ≤ 57
          · exact absurd (.inl (hdig.2 ⟨c4, c5⟩)) hd
          · rw [if_neg c5, if_neg (fun a => hd (.inr a)), if_pos (by omega)]; exact fin
        · rw [if_neg c4, if_neg (fun a => hd (.inr a)), if_pos (by omega)]; exact fin
      · rw [decide_eq_false c3]; exact j1f
end Go.Proofs.Ytpcejdmhdjajcaa.Pure
