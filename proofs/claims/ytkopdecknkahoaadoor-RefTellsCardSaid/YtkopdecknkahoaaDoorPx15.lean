/- Printed by a program of this session over the kit's print.py: functions of the Go program told as Lean functions, each with the proof that its call answers so. No conditions. -/
import Derived.Test.YtkopdecknkahoaaDoorPx0
import Derived.Test.YtkopdecknkahoaaDoorPx13
namespace Go.Proofs.YtkopdecknkahoaaDoor.P
open Go.RowKit Go.Proofs.YtkopdecknkahoaaDoor.G Go.Proofs.YtkopdecknkahoaaDoorW.PrintWords Go.Proofs.YtkopdecknkahoaaDoorW.PrintLast Go.Proofs.YtkopdecknkahoaaDoorW.PrintMore
attribute [local go_sem high] G.str_leq G.str_gtr
attribute [local go_sem] max2_int min2_int max_two min_two max_three min_three max_four min_four   -- for this text's walks alone
set_option linter.unusedVariables false
set_option linter.unusedSimpArgs false
noncomputable section

/-! ### flailref04_Fix: function 63 -/
def flailref04_Fix.f (a0 : Int) : Option (ByteArray) := if a0 < 1 then (some (⟨#[239, 191, 189]⟩ : ByteArray)) else (if a0 > 1114111 then (some (⟨#[239, 191, 189]⟩ : ByteArray)) else ((some (([8364, 129, 8218, 402, 8222, 8230, 8224, 8225, 710, 8240, 352, 8249, 338, 141, 381, 143, 144, 8216, 8217, 8220, 8221, 8226, 8211, 8212, 732, 8482, 353, 8250, 339, 157, 382, 376] : List Int) : List Int)).bind fun y165 => (if a0 ≥ 128 then (if a0 ≤ 159 then (if 0 ≤ (wrap64 (a0 - 128)) then (if (wrap64 (a0 - 128)) < (y165.length : Int) then ((flailref01_Sign_o.f (rd y165 (wrap64 (a0 - 128)))).bind fun t169 => (some t169)) else (none)) else (none)) else ((flailref01_Sign_o.f a0).bind fun t170 => (some t170))) else ((flailref01_Sign_o.f a0).bind fun t171 => (some t171)))))
set_option maxHeartbeats 8000000 in
set_option maxRecDepth 100000 in
theorem flailref04_Fix.calls (a0 : Int) (r : ByteArray) (w : World) (h : flailref04_Fix.f a0 = some r) :
    Calls Tryd.prog 63 #[.int .i64 a0] w fun e w' => e = .returned (.string r) ∧ Below w.heap.size w w' := by
  have HB := Aside0.mk (Below.refl w.heap.size w)
  have H : (if a0 < 1 then (some (⟨#[239, 191, 189]⟩ : ByteArray)) else (if a0 > 1114111 then (some (⟨#[239, 191, 189]⟩ : ByteArray)) else ((some (([8364, 129, 8218, 402, 8222, 8230, 8224, 8225, 710, 8240, 352, 8249, 338, 141, 381, 143, 144, 8216, 8217, 8220, 8221, 8226, 8211, 8212, 732, 8482, 353, 8250, 339, 157, 382, 376] : List Int) : List Int)).bind fun y165 => (if a0 ≥ 128 then (if a0 ≤ 159 then (if 0 ≤ (wrap64 (a0 - 128)) then (if (wrap64 (a0 - 128)) < (y165.length : Int) then ((flailref01_Sign_o.f (rd y165 (wrap64 (a0 - 128)))).bind fun t169 => (some t169)) else (none)) else (none)) else ((flailref01_Sign_o.f a0).bind fun t170 => (some t170))) else ((flailref01_Sign_o.f a0).bind fun t171 => (some t171)))))) = some r := h
  clear h
  by_cases c2 : a0 < 1
  · rw [if_pos c2] at H
    have c2b0 : decide (a0 < 1) = true := decide_eq_true c2
    clear c2
    obtain rfl := Option.some.inj H
    go_enter Tryd.func63, Tryd.ntmps63
    go_wp2
    go_ret
    exact ⟨by first | rfl | (simp [errW_none, errW_some] <;> rfl) | (simp [*, errW_none, errW_some] <;> rfl) | (rw [w64 (by omega) (by omega)]; done), by repeat (first | (with_reducible first | exact HB.out | apply below_alloc | apply pw_below_drewN | apply below_drew1) | exact HB.out)⟩
  · rw [if_neg c2] at H
    have c2b0 : decide (a0 < 1) = false := decide_eq_false c2
    clear c2
    by_cases c3 : a0 > 1114111
    · rw [if_pos c3] at H
      have c3b0 : decide (1114111 < a0) = true := decide_eq_true c3
      clear c3
      obtain rfl := Option.some.inj H
      go_enter Tryd.func63, Tryd.ntmps63
      go_wp2
      go_ret
      exact ⟨by first | rfl | (simp [errW_none, errW_some] <;> rfl) | (simp [*, errW_none, errW_some] <;> rfl) | (rw [w64 (by omega) (by omega)]; done), by repeat (first | (with_reducible first | exact HB.out | apply below_alloc | apply pw_below_drewN | apply below_drew1) | exact HB.out)⟩
    · rw [if_neg c3] at H
      have c3b0 : decide (1114111 < a0) = false := decide_eq_false c3
      clear c3
      obtain ⟨y165, hy165⟩ : ∃ y_ : List Int, y_ = (([8364, 129, 8218, 402, 8222, 8230, 8224, 8225, 710, 8240, 352, 8249, 338, 141, 381, 143, 144, 8216, 8217, 8220, 8221, 8226, 8211, 8212, 732, 8482, 353, 8250, 339, 157, 382, 376] : List Int)) := ⟨_, rfl⟩
      replace H : (if a0 ≥ 128 then (if a0 ≤ 159 then (if 0 ≤ (wrap64 (a0 - 128)) then (if (wrap64 (a0 - 128)) < (y165.length : Int) then ((flailref01_Sign_o.f (rd y165 (wrap64 (a0 - 128)))).bind fun t169 => (some t169)) else (none)) else (none)) else ((flailref01_Sign_o.f a0).bind fun t170 => (some t170))) else ((flailref01_Sign_o.f a0).bind fun t171 => (some t171))) = some r := by first | (rw [hy165]; with_reducible exact H) | (have H2_ := (Option.bind_some _ _).symm.trans H; rw [hy165]; with_reducible exact H2_) | (have H2_ := (Option.bind_some _ _).symm.trans H; with_reducible exact H2_) | with_reducible exact H | (rw [hy165]; exact H) | exact H
      have Ny165 := Aside0.mk hy165
      clear hy165
      by_cases c4 : a0 ≥ 128
      · rw [if_pos c4] at H
        have c4b0 : decide (128 ≤ a0) = true := decide_eq_true c4
        clear c4
        by_cases c5 : a0 ≤ 159
        · rw [if_pos c5] at H
          have c5b0 : decide (a0 ≤ 159) = true := decide_eq_true c5
          clear c5
          obtain ⟨ji6, hji6⟩ : ∃ j_ : Int, (wrap64 (a0 - 128)) = j_ := ⟨_, rfl⟩
          replace H : (if 0 ≤ (ji6) then (if (ji6) < (y165.length : Int) then ((flailref01_Sign_o.f (rd y165 (ji6))).bind fun t169 => (some t169)) else (none)) else (none)) = some r := by first | (rw [hji6] at H; exact H) | (simp only [hji6] at H ⊢; exact H)
          have hji6w : (IntKind.i64.wrap (a0 - 128)) = ji6 := (i64_w _).trans hji6
          by_cases c7 : 0 ≤ (ji6)
          · rw [if_pos c7] at H
            have c7b0 : decide (0 ≤ (ji6)) = true := decide_eq_true c7
            clear c7
            by_cases c8 : (ji6) < (y165.length : Int)
            · rw [if_pos c8] at H
              have c8b0 : decide ((ji6) < (y165.length : Int)) = true := decide_eq_true c8
              clear c8
              replace H := Option.bind_eq_some_iff.mp H
              obtain ⟨t169, A90, H⟩ := H
              replace H : (some t169) = some r := H
              have A9 := Aside0.mk A90
              clear A90
              obtain rfl := Option.some.inj H
              go_enter Tryd.func63, Tryd.ntmps63
              go_wp2_with (first | ((with_reducible refine gate_dst (N := 10) rfl ?_); refine Kd.R_lit (Kd.int .i64) _ 3 ?hg (N := 10) ?hd (xs := ([8364, 129, 8218, 402, 8222, 8230, 8224, 8225, 710, 8240, 352, 8249, 338, 141, 381, 143, 144, 8216, 8217, 8220, 8221, 8226, 8211, 8212, 732, 8482, 353, 8250, 339, 157, 382, 376] : List Int)) (inner := [.int .i64 8364, .int .i64 129, .int .i64 8218, .int .i64 402, .int .i64 8222, .int .i64 8230, .int .i64 8224, .int .i64 8225, .int .i64 710, .int .i64 8240, .int .i64 352, .int .i64 8249, .int .i64 338, .int .i64 141, .int .i64 381, .int .i64 143, .int .i64 144, .int .i64 8216, .int .i64 8217, .int .i64 8220, .int .i64 8221, .int .i64 8226, .int .i64 8211, .int .i64 8212, .int .i64 732, .int .i64 8482, .int .i64 353, .int .i64 8250, .int .i64 339, .int .i64 157, .int .i64 382, .int .i64 376]) (ok := fun _ => True) (okp := fun _ => True) ?hr ?hp (fun _ hk => hk) trivial (Below.refl _ _) (Nat.le_refl _) (by simp) ?_; (case hd => rfl); (case hg => rfl); (case hr => first | (go_simp; done) | (go_simp; rfl)); (case hp => exact (Reps.one (show Kd.M (Kd.int .i64) _ _ _ 8364 [.int .i64 8364] from rfl) (Reps.one (show Kd.M (Kd.int .i64) _ _ _ 129 [.int .i64 129] from rfl) (Reps.one (show Kd.M (Kd.int .i64) _ _ _ 8218 [.int .i64 8218] from rfl) (Reps.one (show Kd.M (Kd.int .i64) _ _ _ 402 [.int .i64 402] from rfl) (Reps.one (show Kd.M (Kd.int .i64) _ _ _ 8222 [.int .i64 8222] from rfl) (Reps.one (show Kd.M (Kd.int .i64) _ _ _ 8230 [.int .i64 8230] from rfl) (Reps.one (show Kd.M (Kd.int .i64) _ _ _ 8224 [.int .i64 8224] from rfl) (Reps.one (show Kd.M (Kd.int .i64) _ _ _ 8225 [.int .i64 8225] from rfl) (Reps.one (show Kd.M (Kd.int .i64) _ _ _ 710 [.int .i64 710] from rfl) (Reps.one (show Kd.M (Kd.int .i64) _ _ _ 8240 [.int .i64 8240] from rfl) (Reps.one (show Kd.M (Kd.int .i64) _ _ _ 352 [.int .i64 352] from rfl) (Reps.one (show Kd.M (Kd.int .i64) _ _ _ 8249 [.int .i64 8249] from rfl) (Reps.one (show Kd.M (Kd.int .i64) _ _ _ 338 [.int .i64 338] from rfl) (Reps.one (show Kd.M (Kd.int .i64) _ _ _ 141 [.int .i64 141] from rfl) (Reps.one (show Kd.M (Kd.int .i64) _ _ _ 381 [.int .i64 381] from rfl) (Reps.one (show Kd.M (Kd.int .i64) _ _ _ 143 [.int .i64 143] from rfl) (Reps.one (show Kd.M (Kd.int .i64) _ _ _ 144 [.int .i64 144] from rfl) (Reps.one (show Kd.M (Kd.int .i64) _ _ _ 8216 [.int .i64 8216] from rfl) (Reps.one (show Kd.M (Kd.int .i64) _ _ _ 8217 [.int .i64 8217] from rfl) (Reps.one (show Kd.M (Kd.int .i64) _ _ _ 8220 [.int .i64 8220] from rfl) (Reps.one (show Kd.M (Kd.int .i64) _ _ _ 8221 [.int .i64 8221] from rfl) (Reps.one (show Kd.M (Kd.int .i64) _ _ _ 8226 [.int .i64 8226] from rfl) (Reps.one (show Kd.M (Kd.int .i64) _ _ _ 8211 [.int .i64 8211] from rfl) (Reps.one (show Kd.M (Kd.int .i64) _ _ _ 8212 [.int .i64 8212] from rfl) (Reps.one (show Kd.M (Kd.int .i64) _ _ _ 732 [.int .i64 732] from rfl) (Reps.one (show Kd.M (Kd.int .i64) _ _ _ 8482 [.int .i64 8482] from rfl) (Reps.one (show Kd.M (Kd.int .i64) _ _ _ 353 [.int .i64 353] from rfl) (Reps.one (show Kd.M (Kd.int .i64) _ _ _ 8250 [.int .i64 8250] from rfl) (Reps.one (show Kd.M (Kd.int .i64) _ _ _ 339 [.int .i64 339] from rfl) (Reps.one (show Kd.M (Kd.int .i64) _ _ _ 157 [.int .i64 157] from rfl) (Reps.one (show Kd.M (Kd.int .i64) _ _ _ 382 [.int .i64 382] from rfl) (Reps.one (show Kd.M (Kd.int .i64) _ _ _ 376 [.int .i64 376] from rfl) (Reps.none _ _)))))))))))))))))))))))))))))))))); intro v166 w10 ho11 hb hg_ hnew_; clear hg_ hnew_; (first | rw [← Ny165.out] at ho11 | (simp only [Int.reduceToNat] at ho11; rw [← Ny165.out] at ho11)); have n0_ := Aside0.mk (Kd.R_lower ho11 (below_size (by repeat (first | (with_reducible first | exact HB.out | apply below_alloc | apply pw_below_drewN | apply below_drew1) | exact HB.out)))); have n1_ := Aside0.mk (below_step (by repeat (first | (with_reducible first | exact HB.out | apply below_alloc | apply pw_below_drewN | apply below_drew1) | exact HB.out)) hb); clear HB; have HO167 := n0_; have HB := n1_; clear n0_ n1_; clear hb ho11; obtain ⟨Ao12, co12, eo12⟩ := Kd.R_slice HO167.out; subst eo12; have p168 : 0 ≤ ((ji6) : Int) := of_decide_eq_true (by first | (with_reducible assumption) | assumption); have q168 : (ji6) < (y165.length : Int) := of_decide_eq_true (by first | (with_reducible assumption) | assumption); obtain ⟨ad168, e168, hx168_0⟩ := Kd.at_int (Kd.R_reads' HO167.out).2.2 (ji6) p168 q168; cases e168; replace p168 := eq_true p168; replace q168 := eq_true q168) | ((with_reducible refine gate_callee (f := 44) rfl ?_); refine goesL_ (some 22) rfl rfl Tryd.func44 (by kernel_rfl) rfl #[.int .i64 (rd y165 (ji6))] rfl (by (try simp only [List.map_toArray, List.map_cons, List.map_nil]); first | done | (simp only [hji6]; rfl) | rfl | (simp only [List.length_drop, List.length_take]; rfl)) ?_; (with_reducible refine (flailref01_Sign_o.calls (rd y165 (ji6)) t169 _ A9.out).mono ?_); rintro e w13 ⟨rfl, hb⟩; refine ⟨_, rfl, ?_⟩; have n0_ := Aside0.mk (Kd.R_below (by (with_reducible repeat (first | apply Kd.R_alloc | apply Kd.R_drewN | apply Kd.R_drew)); exact HO167.out) hb); have n1_ := Aside0.mk (below_step (by repeat (first | (with_reducible first | exact HB.out | apply below_alloc | apply pw_below_drewN | apply below_drew1) | exact HB.out)) hb); clear HO167; clear HB; have HO167 := n0_; have HB := n1_; clear n0_ n1_; (try clear hb); (try clear hb2); (try clear hk); (try clear hi)))
              go_ret
              exact ⟨by first | rfl | (simp [errW_none, errW_some] <;> rfl) | (simp only [← hji6]; first | rfl | (simp [errW_none, errW_some] <;> rfl)) | (simp [*, errW_none, errW_some] <;> rfl) | (rw [w64 (by omega) (by omega)]; done), by repeat (first | (with_reducible first | exact HB.out | apply below_alloc | apply pw_below_drewN | apply below_drew1) | exact HB.out)⟩
            · rw [if_neg c8] at H
              exact absurd H (by simp)
          · rw [if_neg c7] at H
            exact absurd H (by simp)
        · rw [if_neg c5] at H
          have c5b0 : decide (a0 ≤ 159) = false := decide_eq_false c5
          clear c5
          replace H := Option.bind_eq_some_iff.mp H
          obtain ⟨t170, A140, H⟩ := H
          replace H : (some t170) = some r := H
          have A14 := Aside0.mk A140
          clear A140
          obtain rfl := Option.some.inj H
          go_enter Tryd.func63, Tryd.ntmps63
          go_wp2_with (first | ((with_reducible refine gate_dst (N := 10) rfl ?_); refine Kd.R_lit (Kd.int .i64) _ 3 ?hg (N := 10) ?hd (xs := ([8364, 129, 8218, 402, 8222, 8230, 8224, 8225, 710, 8240, 352, 8249, 338, 141, 381, 143, 144, 8216, 8217, 8220, 8221, 8226, 8211, 8212, 732, 8482, 353, 8250, 339, 157, 382, 376] : List Int)) (inner := [.int .i64 8364, .int .i64 129, .int .i64 8218, .int .i64 402, .int .i64 8222, .int .i64 8230, .int .i64 8224, .int .i64 8225, .int .i64 710, .int .i64 8240, .int .i64 352, .int .i64 8249, .int .i64 338, .int .i64 141, .int .i64 381, .int .i64 143, .int .i64 144, .int .i64 8216, .int .i64 8217, .int .i64 8220, .int .i64 8221, .int .i64 8226, .int .i64 8211, .int .i64 8212, .int .i64 732, .int .i64 8482, .int .i64 353, .int .i64 8250, .int .i64 339, .int .i64 157, .int .i64 382, .int .i64 376]) (ok := fun _ => True) (okp := fun _ => True) ?hr ?hp (fun _ hk => hk) trivial (Below.refl _ _) (Nat.le_refl _) (by simp) ?_; (case hd => rfl); (case hg => rfl); (case hr => first | (go_simp; done) | (go_simp; rfl)); (case hp => exact (Reps.one (show Kd.M (Kd.int .i64) _ _ _ 8364 [.int .i64 8364] from rfl) (Reps.one (show Kd.M (Kd.int .i64) _ _ _ 129 [.int .i64 129] from rfl) (Reps.one (show Kd.M (Kd.int .i64) _ _ _ 8218 [.int .i64 8218] from rfl) (Reps.one (show Kd.M (Kd.int .i64) _ _ _ 402 [.int .i64 402] from rfl) (Reps.one (show Kd.M (Kd.int .i64) _ _ _ 8222 [.int .i64 8222] from rfl) (Reps.one (show Kd.M (Kd.int .i64) _ _ _ 8230 [.int .i64 8230] from rfl) (Reps.one (show Kd.M (Kd.int .i64) _ _ _ 8224 [.int .i64 8224] from rfl) (Reps.one (show Kd.M (Kd.int .i64) _ _ _ 8225 [.int .i64 8225] from rfl) (Reps.one (show Kd.M (Kd.int .i64) _ _ _ 710 [.int .i64 710] from rfl) (Reps.one (show Kd.M (Kd.int .i64) _ _ _ 8240 [.int .i64 8240] from rfl) (Reps.one (show Kd.M (Kd.int .i64) _ _ _ 352 [.int .i64 352] from rfl) (Reps.one (show Kd.M (Kd.int .i64) _ _ _ 8249 [.int .i64 8249] from rfl) (Reps.one (show Kd.M (Kd.int .i64) _ _ _ 338 [.int .i64 338] from rfl) (Reps.one (show Kd.M (Kd.int .i64) _ _ _ 141 [.int .i64 141] from rfl) (Reps.one (show Kd.M (Kd.int .i64) _ _ _ 381 [.int .i64 381] from rfl) (Reps.one (show Kd.M (Kd.int .i64) _ _ _ 143 [.int .i64 143] from rfl) (Reps.one (show Kd.M (Kd.int .i64) _ _ _ 144 [.int .i64 144] from rfl) (Reps.one (show Kd.M (Kd.int .i64) _ _ _ 8216 [.int .i64 8216] from rfl) (Reps.one (show Kd.M (Kd.int .i64) _ _ _ 8217 [.int .i64 8217] from rfl) (Reps.one (show Kd.M (Kd.int .i64) _ _ _ 8220 [.int .i64 8220] from rfl) (Reps.one (show Kd.M (Kd.int .i64) _ _ _ 8221 [.int .i64 8221] from rfl) (Reps.one (show Kd.M (Kd.int .i64) _ _ _ 8226 [.int .i64 8226] from rfl) (Reps.one (show Kd.M (Kd.int .i64) _ _ _ 8211 [.int .i64 8211] from rfl) (Reps.one (show Kd.M (Kd.int .i64) _ _ _ 8212 [.int .i64 8212] from rfl) (Reps.one (show Kd.M (Kd.int .i64) _ _ _ 732 [.int .i64 732] from rfl) (Reps.one (show Kd.M (Kd.int .i64) _ _ _ 8482 [.int .i64 8482] from rfl) (Reps.one (show Kd.M (Kd.int .i64) _ _ _ 353 [.int .i64 353] from rfl) (Reps.one (show Kd.M (Kd.int .i64) _ _ _ 8250 [.int .i64 8250] from rfl) (Reps.one (show Kd.M (Kd.int .i64) _ _ _ 339 [.int .i64 339] from rfl) (Reps.one (show Kd.M (Kd.int .i64) _ _ _ 157 [.int .i64 157] from rfl) (Reps.one (show Kd.M (Kd.int .i64) _ _ _ 382 [.int .i64 382] from rfl) (Reps.one (show Kd.M (Kd.int .i64) _ _ _ 376 [.int .i64 376] from rfl) (Reps.none _ _)))))))))))))))))))))))))))))))))); intro v166 w15 ho16 hb hg_ hnew_; clear hg_ hnew_; (first | rw [← Ny165.out] at ho16 | (simp only [Int.reduceToNat] at ho16; rw [← Ny165.out] at ho16)); have n0_ := Aside0.mk (Kd.R_lower ho16 (below_size (by repeat (first | (with_reducible first | exact HB.out | apply below_alloc | apply pw_below_drewN | apply below_drew1) | exact HB.out)))); have n1_ := Aside0.mk (below_step (by repeat (first | (with_reducible first | exact HB.out | apply below_alloc | apply pw_below_drewN | apply below_drew1) | exact HB.out)) hb); clear HB; have HO167 := n0_; have HB := n1_; clear n0_ n1_; clear hb ho16) | ((with_reducible refine gate_callee (f := 44) rfl ?_); refine goesL_ (some 24) rfl rfl Tryd.func44 (by kernel_rfl) rfl #[.int .i64 a0] rfl (by (try simp only [List.map_toArray, List.map_cons, List.map_nil]); first | done | rfl | (simp only [List.length_drop, List.length_take]; rfl)) ?_; (with_reducible refine (flailref01_Sign_o.calls a0 t170 _ A14.out).mono ?_); rintro e w17 ⟨rfl, hb⟩; refine ⟨_, rfl, ?_⟩; have n0_ := Aside0.mk (Kd.R_below (by (with_reducible repeat (first | apply Kd.R_alloc | apply Kd.R_drewN | apply Kd.R_drew)); exact HO167.out) hb); have n1_ := Aside0.mk (below_step (by repeat (first | (with_reducible first | exact HB.out | apply below_alloc | apply pw_below_drewN | apply below_drew1) | exact HB.out)) hb); clear HO167; clear HB; have HO167 := n0_; have HB := n1_; clear n0_ n1_; (try clear hb); (try clear hb2); (try clear hk); (try clear hi)))
          go_ret
          exact ⟨by first | rfl | (simp [errW_none, errW_some] <;> rfl) | (simp [*, errW_none, errW_some] <;> rfl) | (rw [w64 (by omega) (by omega)]; done), by repeat (first | (with_reducible first | exact HB.out | apply below_alloc | apply pw_below_drewN | apply below_drew1) | exact HB.out)⟩
      · rw [if_neg c4] at H
        have c4b0 : decide (128 ≤ a0) = false := decide_eq_false c4
        clear c4
        replace H := Option.bind_eq_some_iff.mp H
        obtain ⟨t171, A180, H⟩ := H
        replace H : (some t171) = some r := H
        have A18 := Aside0.mk A180
        clear A180
        obtain rfl := Option.some.inj H
        go_enter Tryd.func63, Tryd.ntmps63
        go_wp2_with (first | ((with_reducible refine gate_dst (N := 10) rfl ?_); refine Kd.R_lit (Kd.int .i64) _ 3 ?hg (N := 10) ?hd (xs := ([8364, 129, 8218, 402, 8222, 8230, 8224, 8225, 710, 8240, 352, 8249, 338, 141, 381, 143, 144, 8216, 8217, 8220, 8221, 8226, 8211, 8212, 732, 8482, 353, 8250, 339, 157, 382, 376] : List Int)) (inner := [.int .i64 8364, .int .i64 129, .int .i64 8218, .int .i64 402, .int .i64 8222, .int .i64 8230, .int .i64 8224, .int .i64 8225, .int .i64 710, .int .i64 8240, .int .i64 352, .int .i64 8249, .int .i64 338, .int .i64 141, .int .i64 381, .int .i64 143, .int .i64 144, .int .i64 8216, .int .i64 8217, .int .i64 8220, .int .i64 8221, .int .i64 8226, .int .i64 8211, .int .i64 8212, .int .i64 732, .int .i64 8482, .int .i64 353, .int .i64 8250, .int .i64 339, .int .i64 157, .int .i64 382, .int .i64 376]) (ok := fun _ => True) (okp := fun _ => True) ?hr ?hp (fun _ hk => hk) trivial (Below.refl _ _) (Nat.le_refl _) (by simp) ?_; (case hd => rfl); (case hg => rfl); (case hr => first | (go_simp; done) | (go_simp; rfl)); (case hp => exact (Reps.one (show Kd.M (Kd.int .i64) _ _ _ 8364 [.int .i64 8364] from rfl) (Reps.one (show Kd.M (Kd.int .i64) _ _ _ 129 [.int .i64 129] from rfl) (Reps.one (show Kd.M (Kd.int .i64) _ _ _ 8218 [.int .i64 8218] from rfl) (Reps.one (show Kd.M (Kd.int .i64) _ _ _ 402 [.int .i64 402] from rfl) (Reps.one (show Kd.M (Kd.int .i64) _ _ _ 8222 [.int .i64 8222] from rfl) (Reps.one (show Kd.M (Kd.int .i64) _ _ _ 8230 [.int .i64 8230] from rfl) (Reps.one (show Kd.M (Kd.int .i64) _ _ _ 8224 [.int .i64 8224] from rfl) (Reps.one (show Kd.M (Kd.int .i64) _ _ _ 8225 [.int .i64 8225] from rfl) (Reps.one (show Kd.M (Kd.int .i64) _ _ _ 710 [.int .i64 710] from rfl) (Reps.one (show Kd.M (Kd.int .i64) _ _ _ 8240 [.int .i64 8240] from rfl) (Reps.one (show Kd.M (Kd.int .i64) _ _ _ 352 [.int .i64 352] from rfl) (Reps.one (show Kd.M (Kd.int .i64) _ _ _ 8249 [.int .i64 8249] from rfl) (Reps.one (show Kd.M (Kd.int .i64) _ _ _ 338 [.int .i64 338] from rfl) (Reps.one (show Kd.M (Kd.int .i64) _ _ _ 141 [.int .i64 141] from rfl) (Reps.one (show Kd.M (Kd.int .i64) _ _ _ 381 [.int .i64 381] from rfl) (Reps.one (show Kd.M (Kd.int .i64) _ _ _ 143 [.int .i64 143] from rfl) (Reps.one (show Kd.M (Kd.int .i64) _ _ _ 144 [.int .i64 144] from rfl) (Reps.one (show Kd.M (Kd.int .i64) _ _ _ 8216 [.int .i64 8216] from rfl) (Reps.one (show Kd.M (Kd.int .i64) _ _ _ 8217 [.int .i64 8217] from rfl) (Reps.one (show Kd.M (Kd.int .i64) _ _ _ 8220 [.int .i64 8220] from rfl) (Reps.one (show Kd.M (Kd.int .i64) _ _ _ 8221 [.int .i64 8221] from rfl) (Reps.one (show Kd.M (Kd.int .i64) _ _ _ 8226 [.int .i64 8226] from rfl) (Reps.one (show Kd.M (Kd.int .i64) _ _ _ 8211 [.int .i64 8211] from rfl) (Reps.one (show Kd.M (Kd.int .i64) _ _ _ 8212 [.int .i64 8212] from rfl) (Reps.one (show Kd.M (Kd.int .i64) _ _ _ 732 [.int .i64 732] from rfl) (Reps.one (show Kd.M (Kd.int .i64) _ _ _ 8482 [.int .i64 8482] from rfl) (Reps.one (show Kd.M (Kd.int .i64) _ _ _ 353 [.int .i64 353] from rfl) (Reps.one (show Kd.M (Kd.int .i64) _ _ _ 8250 [.int .i64 8250] from rfl) (Reps.one (show Kd.M (Kd.int .i64) _ _ _ 339 [.int .i64 339] from rfl) (Reps.one (show Kd.M (Kd.int .i64) _ _ _ 157 [.int .i64 157] from rfl) (Reps.one (show Kd.M (Kd.int .i64) _ _ _ 382 [.int .i64 382] from rfl) (Reps.one (show Kd.M (Kd.int .i64) _ _ _ 376 [.int .i64 376] from rfl) (Reps.none _ _)))))))))))))))))))))))))))))))))); intro v166 w19 ho20 hb hg_ hnew_; clear hg_ hnew_; (first | rw [← Ny165.out] at ho20 | (simp only [Int.reduceToNat] at ho20; rw [← Ny165.out] at ho20)); have n0_ := Aside0.mk (Kd.R_lower ho20 (below_size (by repeat (first | (with_reducible first | exact HB.out | apply below_alloc | apply pw_below_drewN | apply below_drew1) | exact HB.out)))); have n1_ := Aside0.mk (below_step (by repeat (first | (with_reducible first | exact HB.out | apply below_alloc | apply pw_below_drewN | apply below_drew1) | exact HB.out)) hb); clear HB; have HO167 := n0_; have HB := n1_; clear n0_ n1_; clear hb ho20) | ((with_reducible refine gate_callee (f := 44) rfl ?_); refine goesL_ (some 24) rfl rfl Tryd.func44 (by kernel_rfl) rfl #[.int .i64 a0] rfl (by (try simp only [List.map_toArray, List.map_cons, List.map_nil]); first | done | rfl | (simp only [List.length_drop, List.length_take]; rfl)) ?_; (with_reducible refine (flailref01_Sign_o.calls a0 t171 _ A18.out).mono ?_); rintro e w21 ⟨rfl, hb⟩; refine ⟨_, rfl, ?_⟩; have n0_ := Aside0.mk (Kd.R_below (by (with_reducible repeat (first | apply Kd.R_alloc | apply Kd.R_drewN | apply Kd.R_drew)); exact HO167.out) hb); have n1_ := Aside0.mk (below_step (by repeat (first | (with_reducible first | exact HB.out | apply below_alloc | apply pw_below_drewN | apply below_drew1) | exact HB.out)) hb); clear HO167; clear HB; have HO167 := n0_; have HB := n1_; clear n0_ n1_; (try clear hb); (try clear hb2); (try clear hk); (try clear hi)))
        go_ret
        exact ⟨by first | rfl | (simp [errW_none, errW_some] <;> rfl) | (simp [*, errW_none, errW_some] <;> rfl) | (rw [w64 (by omega) (by omega)]; done), by repeat (first | (with_reducible first | exact HB.out | apply below_alloc | apply pw_below_drewN | apply below_drew1) | exact HB.out)⟩

/-! flailref04_Fix, told over -/
-- IMPORT Derived.Test.YtkopdecknkahoaaDoorGN
def flailref04_Fix_o.f (a0 : Int) : Option ByteArray := some (fixS a0)
theorem flailref04_Fix_o.sound (a0 : Int) (r : ByteArray) (h : flailref04_Fix_o.f a0 = some r) : flailref04_Fix.f a0 = some r := by
  rw [← h]
  unfold flailref04_Fix.f flailref04_Fix_o.f fixS
  by_cases h1 : a0 < 1
  · rw [if_pos h1]
    by_cases h0 : a0 = 0
    · rw [if_pos h0]; rfl
    · rw [if_neg h0, if_neg (by omega), encode_low (by omega)]; rfl
  by_cases h2 : a0 > 1114111
  · rw [if_neg h1, if_pos h2, if_neg (by omega), if_neg (by omega), encode_high h2]; rfl
  rw [if_neg h1, if_neg h2, Option.bind_some, if_neg (show ¬ a0 = 0 by omega)]
  by_cases h3 : a0 ≥ 128
  · by_cases h4 : a0 ≤ 159
    · rw [if_pos h3, if_pos h4, w64 (by omega) (by omega), if_pos (by omega), if_pos (by simp; omega), if_pos ⟨h3, h4⟩]; rfl
    · rw [if_pos h3, if_neg h4, if_neg (by omega)]; rfl
  · rw [if_neg h3, if_neg (by omega)]; rfl
set_option maxRecDepth 100000 in
theorem flailref04_Fix_o.calls (a0 : Int) (r : ByteArray) (w : World) (h : flailref04_Fix_o.f a0 = some r) :
    Calls Tryd.prog 63 #[.int .i64 a0] w fun e w' => e = .returned (.string r) ∧ Below w.heap.size w w' := by
  have hk := flailref04_Fix_o.sound _ _ h
  exact flailref04_Fix.calls a0 r w hk

end
end Go.Proofs.YtkopdecknkahoaaDoor.P
