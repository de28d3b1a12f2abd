/- Proved: whatever its arguments, the call of the law TagWritten returns true, and each argument reads behind the call as it read before. No conditions but the given row's own. -/
import Derived.Test.YtmokjaddbmcopaaDoorGV
import Derived.Test.YtmokjaddbmcopaaDoorGZ
import Derived.Test.YtmokjaddbmcopaaDoorRows
import Derived.Test.YtmokjaddbmcopaaDoorTie
import Derived.Test.YtmokjaddbmcopaaDoorCards
import Derived.Test.YtmokjaddbmcopaaDoorRX
import Derived.SevenTiedAt
import Derived.Test.YtmokjaddbmcopaaDoorPx20
import Derived.WalkKit
import Derived.ProofKit
import Derived.OpenShut
import Derived.ShutString
import Derived.ChangeOld
import Derived.Below
import Derived.SizedLaws
import Derived.Test.YtmokjaddbmcopaaDoorWSized
section
-- pruned2
/- Proved: what the printed function of the law TagWritten answers is true, for all arguments within the row's own bounds: over numbers and lists alone. No further conditions. -/
namespace Go.Proofs.YtmokjaddbmcopaaDoor.Pure
open Go.RowKit Go.Proofs.YtmokjaddbmcopaaDoor.P Go.Proofs.YtmokjaddbmcopaaDoor.G Go.Proofs.YtmokjaddbmcopaaDoorW.PrintWords Go.Proofs.YtmokjaddbmcopaaDoorW.PrintLast Go.Proofs.YtmokjaddbmcopaaDoorW.PrintMore
set_option linter.unusedVariables false
set_option linter.unusedSimpArgs false
noncomputable def lsA (u : List UInt8) : AL := if (sc u).2.2.2 = true then (sc u).1.foldl addA [] else []
theorem tag_pos (s : ByteArray) (p : Nat) (hp : p ≤ s.size) : tagN (lb s) (p : Int) = ((tagK ((lb s).drop p) : Nat) : Int) := by
  unfold tagN
  rw [if_pos ⟨by omega, by rw [length_lb]; omega⟩, Int.toNat_natCast]
def noT (n : Int) : Int × ByteArray × ByteArray × List S33 × Bool × Int × Bool := (0, ⟨#[]⟩, ⟨#[]⟩, [], false, n, false)
theorem finA_is (p : Nat) (u : List UInt8) : finA [] p u = (EA (lsA u), (sc u).2.1, ((p + (sc u).2.2.1 : Nat) : Int), (sc u).2.2.2) := rfl
theorem tagF_is (s : ByteArray) (p : Nat) (u : List UInt8) (hu : (lb s).drop p = u) : tagF (lb s) p (tagK u) = if tOk u = true then (if tagK u = 1 then (1, bs (tNm u), ⟨#[]⟩, EA (lsA (tZ u)), (sc (tZ u)).2.1, ((p + tN u : Nat) : Int), true) else (2, bs (tNm u), ⟨#[]⟩, [], false, ((p + tN u : Nat) : Int), true)) else (0, ⟨#[]⟩, ⟨#[]⟩, [], false, (s.size : Int), false) := by
  have e1 : (lb s).drop (p + tagK u) = u.drop (tagK u) := by rw [← hu, List.drop_drop]
  have e2 : (lb s).drop (p + tagK u + wdU [47, 62] (u.drop (tagK u))) = tZ u := by
    show _ = (u.drop (tagK u)).drop (wdU [47, 62] (u.drop (tagK u)))
    rw [← e1, List.drop_drop]
  unfold tagF
  rw [e1, e2, finA_is, length_lb]
  unfold tOk tNm tN tW
  simp only [Nat.add_assoc]
theorem read_1T (s : ByteArray) (p : Nat) (u : List UInt8) (hu : (lb s).drop p = u) (hs : s.size ≤ 100000) (hp : p ≤ s.size) (h : tagK u ≠ 0) (hok : tOk u = false) : tag_Read.f s (p : Int) = some (noT s.size) := by
  rw [tag_Read.f, if_pos ⟨by omega, by omega, by omega⟩, tag_pos s p hp, hu, if_neg (by omega), Int.toNat_natCast, Int.toNat_natCast, tagF_is s p u hu, hok, if_neg (by decide)]; rfl
theorem read_2T (s : ByteArray) (p : Nat) (u : List UInt8) (hu : (lb s).drop p = u) (hs : s.size ≤ 100000) (hp : p ≤ s.size) (h : tagK u ≠ 0) (hok : tOk u = true) : tag_Read.f s (p : Int) = some (if tagK u = 1 then (1, bs (tNm u), ⟨#[]⟩, EA (lsA (tZ u)), (sc (tZ u)).2.1, ((p + tN u : Nat) : Int), true) else (2, bs (tNm u), ⟨#[]⟩, [], false, ((p + tN u : Nat) : Int), true)) := by
  rw [tag_Read.f, if_pos ⟨by omega, by omega, by omega⟩, tag_pos s p hp, hu, if_neg (by omega), Int.toNat_natCast, Int.toNat_natCast, tagF_is s p u hu, hok, if_pos rfl]
theorem same_T (k : Int) (n t : ByteArray) (l : List S33) (b : Bool) (hl : l.length ≤ 100000) : flailref09_Same.f k n t l b k n t l b = some true := by
  rw [flailref09_Same.f, if_pos rfl, if_pos rfl, if_pos rfl, if_pos (by rw [beq_self_eq_true]), flailref08_Same_o.f, if_pos (by omega), decide_eq_true rfl, Option.bind_some]
theorem begins_T (s : ByteArray) (p : Nat) (hs : s.size ≤ 100000) (hp : p ≤ s.size) : tag_Begins.f s (p : Int) = some (tagK ((lb s).drop p) != 0) := by
  rw [tag_Begins.f, if_pos (by omega), decide_eq_true ⟨by omega, by rw [length_lb]; omega⟩, Bool.true_and, Int.toNat_natCast]
theorem awake9 : flaillaw09_awake.f = some true := by
  have s1 : sc [32, 120, 62] = ([([120], [])], false, 3, true) := by
    rw [sc_blank 32 _ (by decide), sc_one 120 [62] (by decide) (by decide) (by decide) 0 [] (by decide +kernel) (by decide +kernel) (by decide) (by decide) (by decide) (by decide), List.drop_zero, sc_gt]; rfl
  have s2 : sc [32, 62] = ([], false, 2, true) := by rw [sc_blank 32 _ (by decide), sc_gt]; rfl
  have z1 : tZ [60, 65, 32, 120, 62] = [32, 120, 62] := by decide +kernel
  have z2 : tZ [60, 47, 112, 32, 62] = [32, 62] := by decide +kernel
  have k1 : tagK [60, 65, 32, 120, 62] = 1 := by decide +kernel
  have k2 : tagK [60, 47, 112, 32, 62] = 2 := by decide +kernel
  have w1 : tW [60, 65, 32, 120, 62] = 1 := by decide +kernel
  have w2 : tW [60, 47, 112, 32, 62] = 1 := by decide +kernel
  have m1 : tNm [60, 65, 32, 120, 62] = [97] := by decide +kernel
  have m2 : tNm [60, 47, 112, 32, 62] = [112] := by decide +kernel
  have n1 : tN [60, 65, 32, 120, 62] = 5 := by unfold tN; rw [z1, s1, k1, w1]; rfl
  have n2 : tN [60, 47, 112, 32, 62] = 5 := by unfold tN; rw [z2, s2, k2, w2]; rfl
  have r1 := read_2T ⟨#[60, 65, 32, 120, 62]⟩ 0 [60, 65, 32, 120, 62] rfl (by decide) (by decide) (by rw [k1]; decide) (by unfold tOk; rw [z1, s1])
  have r2 := read_2T ⟨#[60, 47, 112, 32, 62]⟩ 0 [60, 47, 112, 32, 62] rfl (by decide) (by decide) (by rw [k2]; decide) (by unfold tOk; rw [z2, s2])
  have l1 : lsA [32, 120, 62] = [([120], [])] := by unfold lsA; rw [s1]; rfl
  rw [k1, if_pos rfl, m1, z1, l1, s1, n1] at r1
  rw [k2, if_neg (by decide), m2, n2] at r2
  have b := begins_T ⟨#[60, 97]⟩ 0 (by decide) (by decide)
  have e1 : tag_Read.f (⟨#[60, 65, 32, 120, 62]⟩ : ByteArray) 0 = _ := r1
  have e2 : tag_Read.f (⟨#[60, 47, 112, 32, 62]⟩ : ByteArray) 0 = _ := r2
  have e3 : tag_Begins.f (⟨#[60, 97]⟩ : ByteArray) 0 = some true := b.trans (by decide +kernel)
  rw [flaillaw09_awake.f, e1, Option.bind_some, e2, Option.bind_some]
  dsimp only
  rw [if_pos rfl, if_pos rfl, if_pos (by decide), if_pos (by decide), e3, Option.bind_some, if_pos rfl]
  have g1 := same_T 1 (bs [97]) ⟨#[]⟩ (EA [([120], [])]) false (by decide)
  have g2 := same_T 2 (bs [112]) ⟨#[]⟩ [] false (by decide)
  have h1 : flailref09_Same.f 1 (bs [97]) ⟨#[]⟩ (EA [([120], [])]) false 1 (⟨#[97]⟩ : ByteArray) (⟨#[]⟩ : ByteArray) (([(⟨(⟨#[120]⟩ : ByteArray), (⟨#[]⟩ : ByteArray)⟩ : S33)])) false = some true := g1
  have h2 : flailref09_Same.f 2 (bs [112]) ⟨#[]⟩ [] false 2 (⟨#[112]⟩ : ByteArray) (⟨#[]⟩ : ByteArray) [] false = some true := g2
  rw [h1, Option.bind_some, if_pos rfl, h2, Option.bind_some]
theorem wdU_full (e a : List UInt8) (h : ∀ x ∈ a, spaceB x = false ∧ x ∉ e) : wdU e a = a.length := by
  induction a with
  | nil => rfl
  | cons d v ih =>
    have hd := h d List.mem_cons_self
    rw [wdU_let e d v hd.1 hd.2, ih (fun x hx => h x (List.mem_cons_of_mem _ hx)), List.length_cons]
theorem written (en : Bool) (S R : List UInt8) (hne : S ≠ []) (hS : ∀ x ∈ S, letB x = true) (hR : R = [] ∨ ∃ d r, R = d :: r ∧ d ∈ ([47, 62] : List UInt8)) :
    tagK ((if en then [60, 47] else [60]) ++ S ++ R) = (if en then 2 else 1) ∧ tW ((if en then [60, 47] else [60]) ++ S ++ R) = S.length ∧ tZ ((if en then [60, 47] else [60]) ++ S ++ R) = R ∧ tNm ((if en then [60, 47] else [60]) ++ S ++ R) = low S := by
  have hok : ∀ x ∈ S, spaceB x = false ∧ x ∉ ([47, 62] : List UInt8) := fun x hx => by
    have := let_stop x (hS x hx)
    exact ⟨this.1, by simp [this.2.1, this.2.2.1]⟩
  have hw : wdU [47, 62] (S ++ R) = S.length := by
    rcases hR with rfl | ⟨d, r, rfl, hd⟩
    · rw [List.append_nil]; exact wdU_full _ _ hok
    · exact wdU_stop _ S r d hok (.inr hd)
  have hk : tagK ((if en then [60, 47] else [60]) ++ S ++ R) = (if en then 2 else 1) := by
    cases S with
    | nil => exact absurd rfl hne
    | cons c v =>
      have hc := hS c List.mem_cons_self
      cases en with
      | false =>
        show tagK (60 :: c :: (v ++ R)) = 1
        rw [tagK_two, hc, if_pos rfl]
      | true =>
        show tagK (60 :: 47 :: (c :: (v ++ R))) = 2
        rw [tagK_two, if_neg (by decide), if_pos ⟨rfl, hc⟩]
  have hdr : ((if en then [60, 47] else [60]) ++ S ++ R : List UInt8).drop (if en then 2 else 1) = S ++ R := by
    cases en <;> rfl
  have hW : tW ((if en then [60, 47] else [60]) ++ S ++ R) = S.length := by unfold tW; rw [hk, hdr, hw]
  refine ⟨hk, hW, ?_, ?_⟩
  · unfold tZ; rw [hk, hdr, hW, List.drop_left]
  · unfold tNm
    rw [hk, hdr, hW, List.take_left]
    refine cleanL_plain _ (fun hm => ?_)
    obtain ⟨x, hx, e⟩ := List.mem_map.1 hm
    have := let_stop x (hS x hx)
    rw [e] at this
    exact absurd this.2.2.2.1 (by decide)
theorem j3_ (en : Bool) (S Q : List UInt8) (sf : Bool) (hne : S ≠ []) (hS : ∀ x ∈ S, letB x = true) (hl : S.length ≤ 60) (hQ : (Q = [] ∧ sf = false) ∨ (Q = [47] ∧ sf = true)) :
    flaillaw09_TagWritten.j3 1 true (bs ((if en then [60, 47] else [60]) ++ S ++ Q)) (if en then 2 else 1) (bs (low S)) ⟨#[]⟩ (if en then false else sf) = some true := by
  obtain ⟨P, hP⟩ : ∃ P : List UInt8, (if en then [60, 47] else [60]) ++ S ++ Q = P := ⟨_, rfl⟩
  have hPl : P.length = (if en then 2 else 1) + S.length + Q.length := by rw [← hP, List.length_append, List.length_append]; cases en <;> rfl
  have hQl : Q.length ≤ 1 := by rcases hQ with ⟨rfl, _⟩ | ⟨rfl, _⟩ <;> simp
  have hkl : (if en then 2 else 1) ≤ 2 := by cases en <;> decide
  obtain ⟨a1, a2, a3, a4⟩ := written en S Q hne hS (by rcases hQ with ⟨rfl, _⟩ | ⟨rfl, _⟩; exact .inl rfl; exact .inr ⟨47, [], rfl, by decide⟩)
  obtain ⟨b1, b2, b3, b4⟩ := written en S (Q ++ [62, 120]) hne hS (by rcases hQ with ⟨rfl, _⟩ | ⟨rfl, _⟩; exact .inr ⟨62, [120], rfl, by decide⟩; exact .inr ⟨47, [62, 120], rfl, by decide⟩)
  have hPx : (if en then [60, 47] else [60]) ++ S ++ (Q ++ [62, 120]) = P ++ [62, 120] := by rw [← hP]; simp
  rw [hP] at a1 a2 a3 a4 ⊢
  rw [hPx] at b1 b2 b3 b4
  have hsc : sc (Q ++ [62, 120]) = ([], sf, Q.length + 1, true) := by
    rcases hQ with ⟨rfl, rfl⟩ | ⟨rfl, rfl⟩
    · exact sc_gt [120]
    · exact sc_self [120]
  have hsq : (sc Q).2.2.2 = false := by
    rcases hQ with ⟨rfl, rfl⟩ | ⟨rfl, rfl⟩
    · rfl
    · rw [sc_stroke [] (by simp), sc_nil]; rfl
  have z1 : (bs P).size = P.length := size_bs _
  have z2 : (bs P ++ (⟨#[62, 120]⟩ : ByteArray)).size = P.length + 2 := by rw [size_lb, lb_append, List.length_append, lb_bs]; rfl
  have e2 : lb (bs P ++ (⟨#[62, 120]⟩ : ByteArray)) = P ++ [62, 120] := by rw [lb_append, lb_bs]; rfl
  have hk1 : tagK P ≠ 0 := by rw [a1]; cases en <;> decide
  have hk2 : tagK (P ++ [62, 120]) ≠ 0 := by rw [b1]; cases en <;> decide
  have hn : tN (P ++ [62, 120]) = P.length + 1 := by unfold tN; rw [b1, b2, b3, hsc, hPl]; simp only []; omega
  have r1 : tag_Read.f (bs P ++ (⟨#[62, 120]⟩ : ByteArray)) 0 = _ := read_2T (bs P ++ (⟨#[62, 120]⟩ : ByteArray)) 0 (P ++ [62, 120]) e2 (by omega) (Nat.zero_le _) hk2 (by unfold tOk; rw [b3, hsc])
  have r2 : tag_Read.f (bs P) 0 = some (noT (bs P).size) := read_1T (bs P) 0 P (by rw [List.drop_zero, lb_bs]) (by omega) (Nat.zero_le _) hk1 (by unfold tOk; rw [a3]; exact hsq)
  have hls : lsA (Q ++ [62, 120]) = [] := by unfold lsA; rw [hsc]; rfl
  rw [b1, b3, b4, hn, hls, hsc, Nat.zero_add] at r1
  have same0 := same_T 0 ⟨#[]⟩ ⟨#[]⟩ [] false (by simp)
  have fin : ∀ (k : Int) (b : Bool), tag_Read.f (bs P ++ (⟨#[62, 120]⟩ : ByteArray)) 0 = some (k, bs (low S), ⟨#[]⟩, [], b, ((P.length + 1 : Nat) : Int), true) → flaillaw09_TagWritten.j3 1 true (bs P) k (bs (low S)) ⟨#[]⟩ b = some true := by
    intro k b r
    rw [flaillaw09_TagWritten.j3, if_pos (by omega), r, Option.bind_some, r2, Option.bind_some, if_pos rfl]
    unfold noT
    dsimp only
    rw [if_pos rfl, same_T _ _ _ _ _ (by simp), Option.bind_some, if_pos rfl, w64 (by omega) (by omega), if_pos (by omega), if_neg (by decide), if_pos rfl, same0, Option.bind_some]
  cases en with
  | true => exact fin 2 false r1
  | false => exact fin 1 sf r1
theorem letters (n : Int) (h0 : 0 ≤ n) (h1 : n ≤ 255) : ∃ r : Fin 26, Int.tmod n 26 = (r.val : Int) := by
  have hm : 0 ≤ Int.tmod n 26 ∧ Int.tmod n 26 < 26 := ⟨Int.tmod_nonneg 26 h0, Int.tmod_lt_of_pos n (by omega)⟩
  exact ⟨⟨(Int.tmod n 26).toNat, by omega⟩, by simp only []; omega⟩
theorem small_l (r : Fin 26) : strOfNums [(97 + (r.val : Int)) % 256] = bs [UInt8.ofNat (97 + r.val)] := by
  have : (97 + (r.val : Int)) % 256 = ((97 + r.val : Nat) : Int) := by omega
  rw [this]; rfl
theorem large_l (r : Fin 26) : strOfNums [(65 + (r.val : Int)) % 256] = bs [UInt8.ofNat (65 + r.val)] := by
  have : (65 + (r.val : Int)) % 256 = ((65 + r.val : Nat) : Int) := by omega
  rw [this]; rfl
theorem let_small (r : Fin 26) : letB (UInt8.ofNat (97 + r.val)) = true ∧ lowU (UInt8.ofNat (97 + r.val)) = UInt8.ofNat (97 + r.val) := by revert r; decide
theorem let_large (r : Fin 26) : letB (UInt8.ofNat (65 + r.val)) = true ∧ lowU (UInt8.ofNat (65 + r.val)) = UInt8.ofNat (97 + r.val) := by revert r; decide
theorem l0_ (x0 : List Int) (en st : Bool) (hx : ∀ n ∈ x0, 0 ≤ n ∧ n ≤ 255) (h0 : x0.length ≤ 60) (h1 : x0.length ≠ 0) : ∀ (n i : Nat) (S : List UInt8), i + n = x0.length → S.length = i → (∀ x ∈ S, letB x = true) → flaillaw09_TagWritten.l0 (n + 3) x0 en st true (bs S) (bs (low S)) (i : Int) = some true
  | 0, i, S, hi, hl, hS => by
    have hne : S ≠ [] := fun e => by rw [e, List.length_nil] at hl; omega
    have z : (bs S).size = S.length := size_bs _
    have fin : ∀ (en : Bool), flaillaw09_TagWritten.j2 2 st true (bs ((if en then [60, 47] else [60]) ++ S)) (if en then 2 else 1) (bs (low S)) ⟨#[]⟩ (if en then false else st) = some true := by
      intro en
      have zz : (bs ((if en then [60, 47] else [60]) ++ S)).size ≤ 62 := by rw [size_bs, List.length_append]; cases en <;> simp <;> omega
      cases st with
      | true =>
        have j := j3_ en S [47] true hne hS (by omega) (.inr ⟨rfl, rfl⟩)
        have e : bs ((if en then [60, 47] else [60]) ++ S) ++ (⟨#[47]⟩ : ByteArray) = bs ((if en then [60, 47] else [60]) ++ S ++ [47]) := lb_inj (by rw [lb_append, lb_bs, lb_bs]; rfl)
        rw [flaillaw09_TagWritten.j2, if_pos rfl, if_pos (by omega), e]; exact j
      | false =>
        have j := j3_ en S [] false hne hS (by omega) (.inl ⟨rfl, rfl⟩)
        rw [List.append_nil] at j
        rw [flaillaw09_TagWritten.j2, if_neg (by decide)]; exact j
    rw [flaillaw09_TagWritten.l0, if_neg (by omega), if_pos (by omega)]
    cases en with
    | true =>
      have e : (⟨#[60, 47]⟩ : ByteArray) ++ bs S = bs ([60, 47] ++ S) := lb_inj (by rw [lb_append, lb_bs, lb_bs]; rfl)
      rw [if_pos rfl, if_pos (by omega), e]; exact fin true
    | false =>
      have e : (⟨#[60]⟩ : ByteArray) ++ bs S = bs ([60] ++ S) := lb_inj (by rw [lb_append, lb_bs, lb_bs]; rfl)
      rw [if_neg (by decide), e]; exact fin false
  | n + 1, i, S, hi, hl, hS => by
    have hil : i < x0.length := by omega
    have hrd : rd x0 (i : Int) = x0[i] := by show x0.getD (i : Int).toNat 0 = _; rw [Int.toNat_natCast]; simp [List.getD, List.getElem?_eq_getElem hil]
    obtain ⟨r, hr⟩ := letters x0[i] (hx _ (List.getElem_mem hil)).1 (hx _ (List.getElem_mem hil)).2
    have z : (bs S).size = S.length := size_bs _
    have z2 : (bs (low S)).size = S.length := by rw [size_bs, low_length]
    have o1 : ∀ c : UInt8, (bs [c]).size = 1 := fun c => size_bs _
    have ih : ∀ c : UInt8, letB c = true → lowU c = UInt8.ofNat (97 + r.val) → flaillaw09_TagWritten.l0 (n + 3) x0 en st true (bs S ++ bs [c]) (bs (low S) ++ bs [UInt8.ofNat (97 + r.val)]) ((i + 1 : Nat) : Int) = some true := by
      intro c hc hlc
      have := l0_ x0 en st hx h0 h1 n (i + 1) (S ++ [c]) (by omega) (by rw [List.length_append]; simp; omega) (fun x hm => by
        rcases List.mem_append.1 hm with h | h
        · exact hS x h
        · rw [List.mem_singleton.1 h]; exact hc)
      have e1 : bs (S ++ [c]) = bs S ++ bs [c] := bs_append _ _
      have e2 : bs (low (S ++ [c])) = bs (low S) ++ bs [UInt8.ofNat (97 + r.val)] := by rw [low_append, bs_append, ← hlc]; rfl
      rw [e1, e2] at this; exact this
    have eI : (i : Int) + 1 = ((i + 1 : Nat) : Int) := by omega
    rw [flaillaw09_TagWritten.l0, if_pos (by omega), if_pos (by omega), hrd, hr, Option.bind_some, small_l, o1, if_pos (by omega)]
    by_cases c : x0[i] ≥ 128
    · rw [if_pos c, Option.bind_some, large_l, o1, if_pos (by omega), w64 (by omega) (by omega), eI]
      exact ih _ (let_large r).1 (let_large r).2
    · rw [if_neg c, Option.bind_some, small_l, o1, if_pos (by omega), w64 (by omega) (by omega), eI]
      exact ih _ (let_small r).1 (let_small r).2
theorem TagWritten : flaillaw09_TagWritten.Pure := by
  intro x0 en st hm hb hx
  by_cases c1 : (x0.length : Int) > 60
  · exact ⟨1, by rw [flaillaw09_TagWritten.f, awake9, Option.bind_some, if_pos c1, flaillaw09_TagWritten.j0, if_pos rfl]⟩
  by_cases c2 : x0.length = 0
  · exact ⟨1, by rw [flaillaw09_TagWritten.f, awake9, Option.bind_some, if_neg c1, flaillaw09_TagWritten.j0, if_pos (by rw [c2]; rfl)]⟩
  refine ⟨x0.length + 3 + 1, ?_⟩
  rw [flaillaw09_TagWritten.f, awake9, Option.bind_some, if_neg c1, flaillaw09_TagWritten.j0, if_neg (by rw [beq_iff_eq]; omega)]
  exact l0_ x0 en st (fun n hn => wf_u8 (hx n hn)) (by omega) c2 x0.length 0 [] (Nat.zero_add _) rfl (fun x h => by cases h)
end Go.Proofs.YtmokjaddbmcopaaDoor.Pure
end
namespace Go.Proofs.YtmokjaddbmcopaaDoor.tagWritten
open Go.ChangeShapes Go.WideShapes Go.ChangeAt Go.RowKit
open Go.ChangeMaps (open_string shut_string)
set_option linter.unusedVariables false
theorem own : ownKnob Tryd.prog.godebug = none := by kernel_rfl
theorem laidOut : laidOutB Tryd.prog = true := by kernel_rfl
def IsRow (k : IntKind) (w : World) (a : Option Addr) (len cap : Nat) (zs : List Int) : Prop :=
  (a = none ∧ len = 0 ∧ cap = 0 ∧ zs = []) ∨
  ∃ x, a = some x ∧ len ≤ cap ∧ cap ≤ maxLen ∧ zs.length = cap ∧ (∀ i, i < zs.length → w.cell? (x.add i) = some (.int k (zs.getD i 0))) ∧ ∀ n ∈ zs, (Lit.int k n).wf = true
set_option maxRecDepth 100000 in
theorem lifted (os : Os) (started : os.Started) (H : Type) (enc : TypeId × Value → H) :
    ReturnsInHanded {} Tryd.checked os 3 .any (fun w args => (Rows.tagWrittenSpec.pre enc Tryd.prog Tryd.f3 Rows.tagWrittenRow.domain false w args ∧ laidMetH Tryd.prog G.laidL w) ∧ sizedMet enc Tryd.prog Tryd.f3 (OpenSpec.ofChange Rows.tagWrittenSpec) false w args) (Rows.tagWrittenSpec.post enc Tryd.prog Tryd.f3 false true false false) := by
  refine G.returns_laid (C := Tryd.checked) (X := fun w _ => laidMetH Tryd.prog G.laidL w) (fun _ _ _ hh h => h.of_heap hh) own started (by kernel_rfl) Tryd.func3
    (ChangeSpec.witness_shaped (enc := enc) (C := Tryd.checked) (os := os) (X := fun w _ => laidMetH Tryd.prog G.laidL w) false (World.laidAll Tryd.prog os G.laidL) #[.slice none 0 0, .bool false, .bool false] 8 (World.laidAll_os _ _ _) (G.door_shaped os _) (by kernel_rfl) (by kernel_rfl) (by kernel_rfl) (G.door_met os _)) ?_
  intro W base args ds gs before hval0 hW hcnd hsz0 hL hSh _
  have hsz : (DataW.weightsEach Tryd.prog (Tryd.f3.params.toList ++ Rows.tagWrittenSpec.plain.varTypes Tryd.prog) (ds ++ gs)).all (· ≤ reachBytes) = true := hsz0
  have hval : ∀ (j : Nat) t v, Tryd.f3.params[j]? = some t → args[j]? = some v → Value.okWide Tryd.prog W .any base t v := hval0
  have hW' := hW
  obtain ⟨p, q, hA0, hV, rfl, hfz, hnd⟩ := hW
  have hA : DataW.TrodAll enc Tryd.prog W 0 (fun _ => true) true Tryd.f3.params.toList args.toList ds p := hA0
  rw [Tryd.params3] at hA hval hsz
  obtain ⟨v0, vs0, d0, ds0, p0, q0, hargs, rfl, rfl, h0, r0⟩ := trodAll_cons hA
  obtain ⟨v1, vs1, d1, ds1, p1, q1, rfl, rfl, rfl, h1, r1⟩ := trodAll_cons r0
  obtain ⟨v2, vs2, d2, ds2, p2, q2, rfl, rfl, rfl, h2, r2⟩ := trodAll_cons r1
  obtain ⟨rfl, rfl, rfl⟩ := trodAll_nil r2
  obtain rfl : args = #[v0, v1, v2] := by cases args; simp_all
  obtain ⟨rfl, rfl⟩ := trodVars_none hV
  obtain ⟨a0, len0, cap0, rfl⟩ := okWide_slice Tryd.underlying22 (hval 0 22 v0 rfl rfl)
  have k0 := h0
  have lt0 : ∀ x ∈ p0, x.block < W.heap.size := by obtain ⟨m, hm⟩ := k0; exact DataW.trod_lt m _ _ _ hm
  obtain ⟨z0, w0⟩ : ∃ zs, IsRow .u8 W a0 len0 cap0 zs := by
    obtain ⟨fuel, hf⟩ := h0
    rcases open_ints Tryd.underlying22 Tryd.underlying5 (by kernel_rfl) hf with ⟨hcs, _⟩ | ⟨x, l, c, zs, hcs, _, hl, hm, hz, _, hcell, hwz⟩
    · simp [Value.cells] at hcs
      obtain ⟨rfl, rfl, rfl⟩ := hcs
      exact ⟨[], .inl ⟨rfl, rfl, rfl, rfl⟩⟩
    · simp [Value.cells] at hcs
      obtain ⟨rfl, rfl, rfl⟩ := hcs
      exact ⟨zs, .inr ⟨_, rfl, hl, hm, by simpa using hz, hcell, hwz⟩⟩
  have y0 : len0 * 1 ≤ 140737488351232 := Go.Proofs.YtmokjaddbmcopaaDoorW.PrintWords.sized_ints hsz (j := 0) (t := 22) rfl rfl Tryd.underlying22 Tryd.underlying5 (by kernel_rfl) (by kernel_rfl) h0
  obtain ⟨a1, rfl, rfl, rfl⟩ := open_bool Tryd.underlying4 (hval 1 4 v1 rfl rfl) h1
  obtain ⟨a2, rfl, rfl, rfl⟩ := open_bool Tryd.underlying4 (hval 2 4 v2 rfl rfl) h2
  clear hA0 hval0 hsz0 hsz
  refine (P.flaillaw09_TagWritten.walk Pure.TagWritten a0 len0 cap0 z0 a1 a2 W w0 y0 (G.gw_of_laid hL hSh)).mono fun e W' ⟨he, bel⟩ => ?_
  subst he
  exact ⟨_, rfl, _, _, _, [], _, [], hW', trodAll_mk1 (shut_bool Tryd.underlying4 _), (trodAll_cons_mk (Below.trod laidOut (by kernel_rfl) (of_decide_eq_true (by kernel_rfl)) k0 bel lt0) (trodAll_cons_mk (shut_bool Tryd.underlying4 _) (trodAll_cons_mk (shut_bool Tryd.underlying4 _) trodAll_mk0))), rfl, bel.frame _, fun h => by cases h⟩
theorem over : Rows.tagWrittenRow.holds Tryd.pinned (OpenSpec.ofChange Rows.tagWrittenSpec) :=
  OpenClaim.holds_of_wide 3 Tryd.f3 rfl rfl rfl rfl rfl rfl rfl ⟨rfl, rfl, rfl, rfl, rfl⟩ rfl rfl rfl rfl rfl (by kernel_rfl) Tryd.func3 (by kernel_rfl)
    (of_decide_eq_true (by kernel_rfl)) (by unfold Func.isWrapper; first | (rw [if_pos (by decide +kernel)]; kernel_rfl) | (rw [if_neg (by decide +kernel)]; exact ⟨rfl, rfl⟩))
    (fun os started H enc _ => lifted os started H enc)
theorem tied : Rows.TagWrittenCardSaid :=
  Claim7.holds_tied_plain_at .later [] [.data, .data, .data, .data, .sentinel, .sentinel, .pinned] true (true, "30dc98967809518d60f9dfcda01edbd4b6055962a1172f6c983fc2dfb1feb0ef") true
    over (fun _ h => by cases h) (by kernel_rfl) (fun _ h => by cases h) tagWritten_row_tie rfl ⟨rfl, rfl⟩ (by kernel_rfl) rfl
    (fun f fn hf hfn => by
      obtain rfl : f = 3 := Option.some.inj ((show Tryd.prog.funcNamed "flail/flaillaw09.TagWritten" = some 3 by kernel_rfl).symm.trans hf) |>.symm
      obtain rfl : fn = Tryd.f3 := (Option.some.inj (Tryd.func3.symm.trans hfn)).symm
      exact ⟨by kernel_rfl, fun j t ht => by
        rw [Tryd.params3] at ht
        have hall : (Tryd.f3.params.toList.all fun u => !Tryd.prog.wantsStandIn u) = true := by kernel_rfl
        rw [Tryd.params3] at hall
        have hm := Array.mem_of_getElem? ht
        exact (show Tryd.prog.wantsStandIn t = false by simpa using List.all_eq_true.1 hall t (by simpa using hm))⟩)
    (by kernel_rfl)
#print axioms tied
end Go.Proofs.YtmokjaddbmcopaaDoor.tagWritten
namespace Go.Proofs.YtmokjaddbmcopaaDoor
/-- The card, under a short name, for the claim. -/
theorem tagWritten_holds : Rows.TagWrittenCardSaid := tagWritten.tied
end Go.Proofs.YtmokjaddbmcopaaDoor
