-- pruned2
/- Printed by a program of this session over the kit's print.py: functions of the Go program told as Lean functions, each with the proof that its call answers so. No conditions. -/
import Derived.Test.YtmokjaddbmcopaaDoorPx0
import Derived.Test.YtmokjaddbmcopaaDoorPx2
import Derived.Test.YtmokjaddbmcopaaDoorPx4
import Derived.Test.YtmokjaddbmcopaaDoorPx5
namespace Go.Proofs.YtmokjaddbmcopaaDoor.P
open Go.RowKit Go.Proofs.YtmokjaddbmcopaaDoor.G Go.Proofs.YtmokjaddbmcopaaDoorW.PrintWords Go.Proofs.YtmokjaddbmcopaaDoorW.PrintLast Go.Proofs.YtmokjaddbmcopaaDoorW.PrintMore
attribute [local go_sem high] G.str_leq G.str_gtr
attribute [local go_sem] max2_int min2_int max_two min_two max_three min_three max_four min_four   -- for this text's walks alone
set_option linter.unusedVariables false
set_option linter.unusedSimpArgs false
noncomputable section

/-! ### attrs_reader_value: function 19 -/
def attrs_reader_value.j0 : Nat → Bool → ByteArray → Int → Option (ByteArray × Bool × ByteArray × Int)
  | 0, _, _, _ => none
  | k + 1, x18, x1000, x1001 => if x18 = true then ((attrs_reader_quoted_o.f x1000 x1001).bind fun bt122 => (some (bt122.1, bt122.2.1, bt122.2.2.1, bt122.2.2.2))) else ((attrs_reader_is.f x1000 x1001 62).bind fun bt126 => (if bt126.1 = true then (some ((⟨#[]⟩ : ByteArray), true, bt126.2.1, bt126.2.2)) else (if bt126.2.2 = (bt126.2.1.size : Int) then (some ((⟨#[]⟩ : ByteArray), true, bt126.2.1, bt126.2.2)) else ((attrs_reader_upTo_o.f bt126.2.1 bt126.2.2 (⟨#[62]⟩ : ByteArray)).bind fun bt129 => (some (bt129.1, true, bt129.2.1, bt129.2.2))))))
def attrs_reader_value.f (k : Nat) (s0_0 : ByteArray) (s0_1 : Int) : Option (ByteArray × Bool × ByteArray × Int) := (attrs_reader_spaces_o.f s0_0 s0_1).bind fun bt109 => ((attrs_reader_is.f bt109.1 bt109.2 61).bind fun bt111 => (if bt111.1 = true then ((attrs_reader_spaces_o.f bt111.2.1 (wrap64 (bt111.2.2 + 1))).bind fun bt114 => ((attrs_reader_is.f bt114.1 bt114.2 34).bind fun bt116 => (if bt116.1 = true then (attrs_reader_value.j0 k bt116.1 bt116.2.1 bt116.2.2) else ((attrs_reader_is.f bt116.2.1 bt116.2.2 39).bind fun bt119 => (attrs_reader_value.j0 k bt119.1 bt119.2.1 bt119.2.2))))) else (some ((⟨#[]⟩ : ByteArray), true, bt111.2.1, bt111.2.2))))
set_option maxHeartbeats 8000000 in
set_option maxRecDepth 100000 in
theorem attrs_reader_value.calls (k : Nat) (g : Nat) (s0_0 : ByteArray) (s0_1 : Int) (r1 : ByteArray) (r2 : Bool) (r3 : ByteArray) (r4 : Int) (w0 w : World) (hI : IsS47 w0 w g s0_0 s0_1) (hB : Below w0.heap.size w0 w) (h : attrs_reader_value.f k s0_0 s0_1 = some (r1, r2, r3, r4)) :
    Calls Tryd.prog 19 #[.pointer (some ⟨g, 0, none⟩)] w fun e w' => e = .returned (.tuple #[.string r1, .bool r2]) ∧ IsS47 w0 w' g r3 r4 ∧ Below w0.heap.size w0 w' ∧ KeepBut w w' g none := by
  have HI0 := Aside0.mk hI
  have HK := Aside0.mk (KeepBut.refl w g none)
  have HL := Aside0.mk hB.size
  clear hI
  have HW0 := Aside0.mk hB.size
  have HB := Aside0.mk hB
  clear hB
  have H : ((attrs_reader_spaces_o.f s0_0 s0_1).bind fun bt109 => ((attrs_reader_is.f bt109.1 bt109.2 61).bind fun bt111 => (if bt111.1 = true then ((attrs_reader_spaces_o.f bt111.2.1 (wrap64 (bt111.2.2 + 1))).bind fun bt114 => ((attrs_reader_is.f bt114.1 bt114.2 34).bind fun bt116 => (if bt116.1 = true then (attrs_reader_value.j0 k bt116.1 bt116.2.1 bt116.2.2) else ((attrs_reader_is.f bt116.2.1 bt116.2.2 39).bind fun bt119 => (attrs_reader_value.j0 k bt119.1 bt119.2.1 bt119.2.2))))) else (some ((⟨#[]⟩ : ByteArray), true, bt111.2.1, bt111.2.2))))) = some (r1, r2, r3, r4) := h
  clear h
  replace H := Option.bind_eq_some_iff.mp H
  obtain ⟨⟨t109, t110⟩, A20, H⟩ := H
  replace H : ((attrs_reader_is.f t109 t110 61).bind fun bt111 => (if bt111.1 = true then ((attrs_reader_spaces_o.f bt111.2.1 (wrap64 (bt111.2.2 + 1))).bind fun bt114 => ((attrs_reader_is.f bt114.1 bt114.2 34).bind fun bt116 => (if bt116.1 = true then (attrs_reader_value.j0 k bt116.1 bt116.2.1 bt116.2.2) else ((attrs_reader_is.f bt116.2.1 bt116.2.2 39).bind fun bt119 => (attrs_reader_value.j0 k bt119.1 bt119.2.1 bt119.2.2))))) else (some ((⟨#[]⟩ : ByteArray), true, bt111.2.1, bt111.2.2)))) = some (r1, r2, r3, r4) := H
  have A2 := Aside0.mk A20
  clear A20
  replace H := Option.bind_eq_some_iff.mp H
  obtain ⟨⟨t111, t112, t113⟩, A30, H⟩ := H
  replace H : (if t111 = true then ((attrs_reader_spaces_o.f t112 (wrap64 (t113 + 1))).bind fun bt114 => ((attrs_reader_is.f bt114.1 bt114.2 34).bind fun bt116 => (if bt116.1 = true then (attrs_reader_value.j0 k bt116.1 bt116.2.1 bt116.2.2) else ((attrs_reader_is.f bt116.2.1 bt116.2.2 39).bind fun bt119 => (attrs_reader_value.j0 k bt119.1 bt119.2.1 bt119.2.2))))) else (some ((⟨#[]⟩ : ByteArray), true, t112, t113))) = some (r1, r2, r3, r4) := H
  have A3 := Aside0.mk A30
  clear A30
  by_cases c4 : t111 = true
  · subst c4
    have H1 : ((attrs_reader_spaces_o.f t112 (wrap64 (t113 + 1))).bind fun bt114 => ((attrs_reader_is.f bt114.1 bt114.2 34).bind fun bt116 => (if bt116.1 = true then (attrs_reader_value.j0 k bt116.1 bt116.2.1 bt116.2.2) else ((attrs_reader_is.f bt116.2.1 bt116.2.2 39).bind fun bt119 => (attrs_reader_value.j0 k bt119.1 bt119.2.1 bt119.2.2))))) = some (r1, r2, r3, r4) := by rw [if_pos rfl] at H; exact H
    clear H
    have H := H1
    clear H1
    replace H := Option.bind_eq_some_iff.mp H
    obtain ⟨⟨t114, t115⟩, A50, H⟩ := H
    replace H : ((attrs_reader_is.f t114 t115 34).bind fun bt116 => (if bt116.1 = true then (attrs_reader_value.j0 k bt116.1 bt116.2.1 bt116.2.2) else ((attrs_reader_is.f bt116.2.1 bt116.2.2 39).bind fun bt119 => (attrs_reader_value.j0 k bt119.1 bt119.2.1 bt119.2.2)))) = some (r1, r2, r3, r4) := H
    have A5 := Aside0.mk A50
    clear A50
    replace H := Option.bind_eq_some_iff.mp H
    obtain ⟨⟨t116, t117, t118⟩, A60, H⟩ := H
    replace H : (if t116 = true then (attrs_reader_value.j0 k t116 t117 t118) else ((attrs_reader_is.f t117 t118 39).bind fun bt119 => (attrs_reader_value.j0 k bt119.1 bt119.2.1 bt119.2.2))) = some (r1, r2, r3, r4) := H
    have A6 := Aside0.mk A60
    clear A60
    have HC7 := Aside0.mk H
    clear H
    go_enter Tryd.func19, Tryd.ntmps19
    go_upto_if 18 with (first | (go_at_call 16; (with_reducible refine (attrs_reader_spaces_o.calls g s0_0 s0_1 t109 t110 w0 _ ?side1 ?side2 A2.out).mono ?_); (case side1 => repeat (first | (with_reducible first | exact HI0.out | apply IsS47.alloc | apply IsS47.drewN | apply IsS47.drew | apply IsS47.set_0 | apply IsS47.set_1) | exact HI0.out)); (case side2 => repeat (first | (with_reducible first | exact HB.out | apply below_alloc | apply pw_below_drewN | apply below_drew1 | refine below_set ?_ (IsS47.ge HI0.out)) | exact HB.out)); rintro e w8 ⟨rfl, hi, hb, hk⟩; have n0_ := Aside0.mk (KeepBut.trans (by repeat (first | (with_reducible first | exact HK.out | apply KeepBut.set_ | apply keep_drewN | apply keep_drew | apply keep_alloc) | exact HK.out)) hk (.inl rfl)); have n1_ := Aside0.mk (hb); have n2_ := Aside0.mk (hi); clear HK; clear HB; clear HI0; have HK := n0_; have HB := n1_; have HI0 := n2_; clear n0_ n1_ n2_; (try clear hb); (try clear hb2); (try clear hk); (try clear hi)) | (go_at_call 17; (with_reducible refine (attrs_reader_is.calls g t109 t110 61 true t112 t113 w0 _ ?side1 ?side2 A3.out).mono ?_); (case side1 => repeat (first | (with_reducible first | exact HI0.out | apply IsS47.alloc | apply IsS47.drewN | apply IsS47.drew | apply IsS47.set_0 | apply IsS47.set_1) | exact HI0.out)); (case side2 => repeat (first | (with_reducible first | exact HB.out | apply below_alloc | apply pw_below_drewN | apply below_drew1 | refine below_set ?_ (IsS47.ge HI0.out)) | exact HB.out)); rintro e w9 ⟨rfl, hi, hb, hk⟩; have n0_ := Aside0.mk (KeepBut.trans (by repeat (first | (with_reducible first | exact HK.out | apply KeepBut.set_ | apply keep_drewN | apply keep_drew | apply keep_alloc) | exact HK.out)) hk (.inl rfl)); have n1_ := Aside0.mk (hb); have n2_ := Aside0.mk (hi); clear HK; clear HB; clear HI0; have HK := n0_; have HB := n1_; have HI0 := n2_; clear n0_ n1_ n2_; (try clear hb); (try clear hb2); (try clear hk); (try clear hi); obtain ⟨HGz10, hgz10⟩ := HI0.out; have hcz10_0 := cellS47_0 HGz10; have hcz10_1 := cellS47_1 HGz10; have hfz10_0 := blk_frozen HGz10 0; have hfz10_1 := blk_frozen HGz10 1; clear HGz10 hgz10) | (go_at_call 16; (with_reducible refine (attrs_reader_spaces_o.calls g t112 (wrap64 (t113 + 1)) t114 t115 w0 _ ?side1 ?side2 A5.out).mono ?_); (case side1 => repeat (first | (with_reducible first | exact HI0.out | apply IsS47.alloc | apply IsS47.drewN | apply IsS47.drew | apply IsS47.set_0 | apply IsS47.set_1) | exact HI0.out)); (case side2 => repeat (first | (with_reducible first | exact HB.out | apply below_alloc | apply pw_below_drewN | apply below_drew1 | refine below_set ?_ (IsS47.ge HI0.out)) | exact HB.out)); rintro e w11 ⟨rfl, hi, hb, hk⟩; have n0_ := Aside0.mk (KeepBut.trans (by repeat (first | (with_reducible first | exact HK.out | apply KeepBut.set_ | apply keep_drewN | apply keep_drew | apply keep_alloc) | exact HK.out)) hk (.inl rfl)); have n1_ := Aside0.mk (hb); have n2_ := Aside0.mk (hi); clear HK; clear HB; clear HI0; have HK := n0_; have HB := n1_; have HI0 := n2_; clear n0_ n1_ n2_; (try clear hb); (try clear hb2); (try clear hk); (try clear hi)) | (go_at_call 17; (with_reducible refine (attrs_reader_is.calls g t114 t115 34 t116 t117 t118 w0 _ ?side1 ?side2 A6.out).mono ?_); (case side1 => repeat (first | (with_reducible first | exact HI0.out | apply IsS47.alloc | apply IsS47.drewN | apply IsS47.drew | apply IsS47.set_0 | apply IsS47.set_1) | exact HI0.out)); (case side2 => repeat (first | (with_reducible first | exact HB.out | apply below_alloc | apply pw_below_drewN | apply below_drew1 | refine below_set ?_ (IsS47.ge HI0.out)) | exact HB.out)); rintro e w12 ⟨rfl, hi, hb, hk⟩; have n0_ := Aside0.mk (KeepBut.trans (by repeat (first | (with_reducible first | exact HK.out | apply KeepBut.set_ | apply keep_drewN | apply keep_drew | apply keep_alloc) | exact HK.out)) hk (.inl rfl)); have n1_ := Aside0.mk (hb); have n2_ := Aside0.mk (hi); clear HK; clear HB; clear HI0; have HK := n0_; have HB := n1_; have HI0 := n2_; clear n0_ n1_ n2_; (try clear hb); (try clear hb2); (try clear hk); (try clear hi)))
    repeat (go_quiet (first | (go_at_call 16; (with_reducible refine (attrs_reader_spaces_o.calls g s0_0 s0_1 t109 t110 w0 _ ?side1 ?side2 A2.out).mono ?_); (case side1 => repeat (first | (with_reducible first | exact HI0.out | apply IsS47.alloc | apply IsS47.drewN | apply IsS47.drew | apply IsS47.set_0 | apply IsS47.set_1) | exact HI0.out)); (case side2 => repeat (first | (with_reducible first | exact HB.out | apply below_alloc | apply pw_below_drewN | apply below_drew1 | refine below_set ?_ (IsS47.ge HI0.out)) | exact HB.out)); rintro e w8 ⟨rfl, hi, hb, hk⟩; have n0_ := Aside0.mk (KeepBut.trans (by repeat (first | (with_reducible first | exact HK.out | apply KeepBut.set_ | apply keep_drewN | apply keep_drew | apply keep_alloc) | exact HK.out)) hk (.inl rfl)); have n1_ := Aside0.mk (hb); have n2_ := Aside0.mk (hi); clear HK; clear HB; clear HI0; have HK := n0_; have HB := n1_; have HI0 := n2_; clear n0_ n1_ n2_; (try clear hb); (try clear hb2); (try clear hk); (try clear hi)) | (go_at_call 17; (with_reducible refine (attrs_reader_is.calls g t109 t110 61 true t112 t113 w0 _ ?side1 ?side2 A3.out).mono ?_); (case side1 => repeat (first | (with_reducible first | exact HI0.out | apply IsS47.alloc | apply IsS47.drewN | apply IsS47.drew | apply IsS47.set_0 | apply IsS47.set_1) | exact HI0.out)); (case side2 => repeat (first | (with_reducible first | exact HB.out | apply below_alloc | apply pw_below_drewN | apply below_drew1 | refine below_set ?_ (IsS47.ge HI0.out)) | exact HB.out)); rintro e w9 ⟨rfl, hi, hb, hk⟩; have n0_ := Aside0.mk (KeepBut.trans (by repeat (first | (with_reducible first | exact HK.out | apply KeepBut.set_ | apply keep_drewN | apply keep_drew | apply keep_alloc) | exact HK.out)) hk (.inl rfl)); have n1_ := Aside0.mk (hb); have n2_ := Aside0.mk (hi); clear HK; clear HB; clear HI0; have HK := n0_; have HB := n1_; have HI0 := n2_; clear n0_ n1_ n2_; (try clear hb); (try clear hb2); (try clear hk); (try clear hi); obtain ⟨HGz10, hgz10⟩ := HI0.out; have hcz10_0 := cellS47_0 HGz10; have hcz10_1 := cellS47_1 HGz10; have hfz10_0 := blk_frozen HGz10 0; have hfz10_1 := blk_frozen HGz10 1; clear HGz10 hgz10) | (go_at_call 16; (with_reducible refine (attrs_reader_spaces_o.calls g t112 (wrap64 (t113 + 1)) t114 t115 w0 _ ?side1 ?side2 A5.out).mono ?_); (case side1 => repeat (first | (with_reducible first | exact HI0.out | apply IsS47.alloc | apply IsS47.drewN | apply IsS47.drew | apply IsS47.set_0 | apply IsS47.set_1) | exact HI0.out)); (case side2 => repeat (first | (with_reducible first | exact HB.out | apply below_alloc | apply pw_below_drewN | apply below_drew1 | refine below_set ?_ (IsS47.ge HI0.out)) | exact HB.out)); rintro e w11 ⟨rfl, hi, hb, hk⟩; have n0_ := Aside0.mk (KeepBut.trans (by repeat (first | (with_reducible first | exact HK.out | apply KeepBut.set_ | apply keep_drewN | apply keep_drew | apply keep_alloc) | exact HK.out)) hk (.inl rfl)); have n1_ := Aside0.mk (hb); have n2_ := Aside0.mk (hi); clear HK; clear HB; clear HI0; have HK := n0_; have HB := n1_; have HI0 := n2_; clear n0_ n1_ n2_; (try clear hb); (try clear hb2); (try clear hk); (try clear hi)) | (go_at_call 17; (with_reducible refine (attrs_reader_is.calls g t114 t115 34 t116 t117 t118 w0 _ ?side1 ?side2 A6.out).mono ?_); (case side1 => repeat (first | (with_reducible first | exact HI0.out | apply IsS47.alloc | apply IsS47.drewN | apply IsS47.drew | apply IsS47.set_0 | apply IsS47.set_1) | exact HI0.out)); (case side2 => repeat (first | (with_reducible first | exact HB.out | apply below_alloc | apply pw_below_drewN | apply below_drew1 | refine below_set ?_ (IsS47.ge HI0.out)) | exact HB.out)); rintro e w12 ⟨rfl, hi, hb, hk⟩; have n0_ := Aside0.mk (KeepBut.trans (by repeat (first | (with_reducible first | exact HK.out | apply KeepBut.set_ | apply keep_drewN | apply keep_drew | apply keep_alloc) | exact HK.out)) hk (.inl rfl)); have n1_ := Aside0.mk (hb); have n2_ := Aside0.mk (hi); clear HK; clear HB; clear HI0; have HK := n0_; have HB := n1_; have HI0 := n2_; clear n0_ n1_ n2_; (try clear hb); (try clear hb2); (try clear hk); (try clear hi))); go_upto_if 18 with (first | (go_at_call 16; (with_reducible refine (attrs_reader_spaces_o.calls g s0_0 s0_1 t109 t110 w0 _ ?side1 ?side2 A2.out).mono ?_); (case side1 => repeat (first | (with_reducible first | exact HI0.out | apply IsS47.alloc | apply IsS47.drewN | apply IsS47.drew | apply IsS47.set_0 | apply IsS47.set_1) | exact HI0.out)); (case side2 => repeat (first | (with_reducible first | exact HB.out | apply below_alloc | apply pw_below_drewN | apply below_drew1 | refine below_set ?_ (IsS47.ge HI0.out)) | exact HB.out)); rintro e w8 ⟨rfl, hi, hb, hk⟩; have n0_ := Aside0.mk (KeepBut.trans (by repeat (first | (with_reducible first | exact HK.out | apply KeepBut.set_ | apply keep_drewN | apply keep_drew | apply keep_alloc) | exact HK.out)) hk (.inl rfl)); have n1_ := Aside0.mk (hb); have n2_ := Aside0.mk (hi); clear HK; clear HB; clear HI0; have HK := n0_; have HB := n1_; have HI0 := n2_; clear n0_ n1_ n2_; (try clear hb); (try clear hb2); (try clear hk); (try clear hi)) | (go_at_call 17; (with_reducible refine (attrs_reader_is.calls g t109 t110 61 true t112 t113 w0 _ ?side1 ?side2 A3.out).mono ?_); (case side1 => repeat (first | (with_reducible first | exact HI0.out | apply IsS47.alloc | apply IsS47.drewN | apply IsS47.drew | apply IsS47.set_0 | apply IsS47.set_1) | exact HI0.out)); (case side2 => repeat (first | (with_reducible first | exact HB.out | apply below_alloc | apply pw_below_drewN | apply below_drew1 | refine below_set ?_ (IsS47.ge HI0.out)) | exact HB.out)); rintro e w9 ⟨rfl, hi, hb, hk⟩; have n0_ := Aside0.mk (KeepBut.trans (by repeat (first | (with_reducible first | exact HK.out | apply KeepBut.set_ | apply keep_drewN | apply keep_drew | apply keep_alloc) | exact HK.out)) hk (.inl rfl)); have n1_ := Aside0.mk (hb); have n2_ := Aside0.mk (hi); clear HK; clear HB; clear HI0; have HK := n0_; have HB := n1_; have HI0 := n2_; clear n0_ n1_ n2_; (try clear hb); (try clear hb2); (try clear hk); (try clear hi); obtain ⟨HGz10, hgz10⟩ := HI0.out; have hcz10_0 := cellS47_0 HGz10; have hcz10_1 := cellS47_1 HGz10; have hfz10_0 := blk_frozen HGz10 0; have hfz10_1 := blk_frozen HGz10 1; clear HGz10 hgz10) | (go_at_call 16; (with_reducible refine (attrs_reader_spaces_o.calls g t112 (wrap64 (t113 + 1)) t114 t115 w0 _ ?side1 ?side2 A5.out).mono ?_); (case side1 => repeat (first | (with_reducible first | exact HI0.out | apply IsS47.alloc | apply IsS47.drewN | apply IsS47.drew | apply IsS47.set_0 | apply IsS47.set_1) | exact HI0.out)); (case side2 => repeat (first | (with_reducible first | exact HB.out | apply below_alloc | apply pw_below_drewN | apply below_drew1 | refine below_set ?_ (IsS47.ge HI0.out)) | exact HB.out)); rintro e w11 ⟨rfl, hi, hb, hk⟩; have n0_ := Aside0.mk (KeepBut.trans (by repeat (first | (with_reducible first | exact HK.out | apply KeepBut.set_ | apply keep_drewN | apply keep_drew | apply keep_alloc) | exact HK.out)) hk (.inl rfl)); have n1_ := Aside0.mk (hb); have n2_ := Aside0.mk (hi); clear HK; clear HB; clear HI0; have HK := n0_; have HB := n1_; have HI0 := n2_; clear n0_ n1_ n2_; (try clear hb); (try clear hb2); (try clear hk); (try clear hi)) | (go_at_call 17; (with_reducible refine (attrs_reader_is.calls g t114 t115 34 t116 t117 t118 w0 _ ?side1 ?side2 A6.out).mono ?_); (case side1 => repeat (first | (with_reducible first | exact HI0.out | apply IsS47.alloc | apply IsS47.drewN | apply IsS47.drew | apply IsS47.set_0 | apply IsS47.set_1) | exact HI0.out)); (case side2 => repeat (first | (with_reducible first | exact HB.out | apply below_alloc | apply pw_below_drewN | apply below_drew1 | refine below_set ?_ (IsS47.ge HI0.out)) | exact HB.out)); rintro e w12 ⟨rfl, hi, hb, hk⟩; have n0_ := Aside0.mk (KeepBut.trans (by repeat (first | (with_reducible first | exact HK.out | apply KeepBut.set_ | apply keep_drewN | apply keep_drew | apply keep_alloc) | exact HK.out)) hk (.inl rfl)); have n1_ := Aside0.mk (hb); have n2_ := Aside0.mk (hi); clear HK; clear HB; clear HI0; have HK := n0_; have HB := n1_; have HI0 := n2_; clear n0_ n1_ n2_; (try clear hb); (try clear hb2); (try clear hk); (try clear hi))))
    (try simp only [Act.put, List.setIfInBounds_toArray, List.set_cons_zero, List.set_cons_succ])
    go_cut [18] (fun v18 wc => ∃ (kq : Nat) (x18_6 : Bool) (x1000_6 : ByteArray) (x1001_6 : Int), v18 = .bool x18_6 ∧ Aside0 (attrs_reader_value.j0 kq x18_6 x1000_6 x1001_6 = some (r1, r2, r3, r4)) ∧ Aside0 (kq ≤ k) ∧ Aside0 (IsS47 w0 wc g x1000_6 x1001_6) ∧ Aside0 (KeepBut w wc g none) ∧ Aside0 (Below w0.heap.size w0 wc))
    case first =>
      have H := HC7.out
      clear HC7
      by_cases c13 : t116 = true
      · subst c13
        have H1 : (attrs_reader_value.j0 k true t117 t118) = some (r1, r2, r3, r4) := by rw [if_pos rfl] at H; exact H
        clear H
        have H := H1
        clear H1
        have H' := Aside0.mk H
        clear H
        go_wp2
        repeat (go_quiet (fail); try go_wp2)
        go_meet
        case rel => first | (exact ⟨_, (true), (t117), (t118), (by first | rfl | (simp; done) | (simp [*]; done) | (rw [w64 (by omega) (by omega)]; done)), H', ⟨by first | omega | exact Nat.le_refl _⟩, ⟨by repeat (first | (with_reducible first | exact HI0.out | apply IsS47.alloc | apply IsS47.drewN | apply IsS47.drew | apply IsS47.set_0 | apply IsS47.set_1) | exact HI0.out)⟩, ⟨by repeat (first | (with_reducible first | exact HK.out | apply KeepBut.set_ | apply keep_drewN | apply keep_drew | apply keep_alloc) | exact HK.out)⟩, ⟨by repeat (first | (with_reducible first | exact HB.out | apply below_alloc | apply pw_below_drewN | apply below_drew1 | refine below_set ?_ (IsS47.ge HI0.out)) | exact HB.out)⟩⟩) | (subst_vars; exact ⟨_, (true), (t117), (t118), (by first | rfl | (simp; done) | (simp [*]; done) | (rw [w64 (by omega) (by omega)]; done)), H', ⟨by first | omega | exact Nat.le_refl _⟩, ⟨by repeat (first | (with_reducible first | exact HI0.out | apply IsS47.alloc | apply IsS47.drewN | apply IsS47.drew | apply IsS47.set_0 | apply IsS47.set_1) | exact HI0.out)⟩, ⟨by repeat (first | (with_reducible first | exact HK.out | apply KeepBut.set_ | apply keep_drewN | apply keep_drew | apply keep_alloc) | exact HK.out)⟩, ⟨by repeat (first | (with_reducible first | exact HB.out | apply below_alloc | apply pw_below_drewN | apply below_drew1 | refine below_set ?_ (IsS47.ge HI0.out)) | exact HB.out)⟩⟩)
      · replace c13 := Bool.eq_false_iff.mpr c13
        subst c13
        have H1 : ((attrs_reader_is.f t117 t118 39).bind fun bt119 => (attrs_reader_value.j0 k bt119.1 bt119.2.1 bt119.2.2)) = some (r1, r2, r3, r4) := by rw [if_neg (show ¬ (false = true) by decide)] at H; exact H
        clear H
        have H := H1
        clear H1
        replace H := Option.bind_eq_some_iff.mp H
        obtain ⟨⟨t119, t120, t121⟩, A140, H⟩ := H
        replace H : (attrs_reader_value.j0 k t119 t120 t121) = some (r1, r2, r3, r4) := H
        have A14 := Aside0.mk A140
        clear A140
        have H' := Aside0.mk H
        clear H
        go_wp2_with (first | (go_at_call 17; (with_reducible refine (attrs_reader_is.calls g t117 t118 39 t119 t120 t121 w0 _ ?side1 ?side2 A14.out).mono ?_); (case side1 => repeat (first | (with_reducible first | exact HI0.out | apply IsS47.alloc | apply IsS47.drewN | apply IsS47.drew | apply IsS47.set_0 | apply IsS47.set_1) | exact HI0.out)); (case side2 => repeat (first | (with_reducible first | exact HB.out | apply below_alloc | apply pw_below_drewN | apply below_drew1 | refine below_set ?_ (IsS47.ge HI0.out)) | exact HB.out)); rintro e w15 ⟨rfl, hi, hb, hk⟩; have n0_ := Aside0.mk (KeepBut.trans (by repeat (first | (with_reducible first | exact HK.out | apply KeepBut.set_ | apply keep_drewN | apply keep_drew | apply keep_alloc) | exact HK.out)) hk (.inl rfl)); have n1_ := Aside0.mk (hb); have n2_ := Aside0.mk (hi); clear HK; clear HB; clear HI0; have HK := n0_; have HB := n1_; have HI0 := n2_; clear n0_ n1_ n2_; (try clear hb); (try clear hb2); (try clear hk); (try clear hi)))
        repeat (go_quiet (first | (go_at_call 17; (with_reducible refine (attrs_reader_is.calls g t117 t118 39 t119 t120 t121 w0 _ ?side1 ?side2 A14.out).mono ?_); (case side1 => repeat (first | (with_reducible first | exact HI0.out | apply IsS47.alloc | apply IsS47.drewN | apply IsS47.drew | apply IsS47.set_0 | apply IsS47.set_1) | exact HI0.out)); (case side2 => repeat (first | (with_reducible first | exact HB.out | apply below_alloc | apply pw_below_drewN | apply below_drew1 | refine below_set ?_ (IsS47.ge HI0.out)) | exact HB.out)); rintro e w15 ⟨rfl, hi, hb, hk⟩; have n0_ := Aside0.mk (KeepBut.trans (by repeat (first | (with_reducible first | exact HK.out | apply KeepBut.set_ | apply keep_drewN | apply keep_drew | apply keep_alloc) | exact HK.out)) hk (.inl rfl)); have n1_ := Aside0.mk (hb); have n2_ := Aside0.mk (hi); clear HK; clear HB; clear HI0; have HK := n0_; have HB := n1_; have HI0 := n2_; clear n0_ n1_ n2_; (try clear hb); (try clear hb2); (try clear hk); (try clear hi))); try go_wp2_with (first | (go_at_call 17; (with_reducible refine (attrs_reader_is.calls g t117 t118 39 t119 t120 t121 w0 _ ?side1 ?side2 A14.out).mono ?_); (case side1 => repeat (first | (with_reducible first | exact HI0.out | apply IsS47.alloc | apply IsS47.drewN | apply IsS47.drew | apply IsS47.set_0 | apply IsS47.set_1) | exact HI0.out)); (case side2 => repeat (first | (with_reducible first | exact HB.out | apply below_alloc | apply pw_below_drewN | apply below_drew1 | refine below_set ?_ (IsS47.ge HI0.out)) | exact HB.out)); rintro e w15 ⟨rfl, hi, hb, hk⟩; have n0_ := Aside0.mk (KeepBut.trans (by repeat (first | (with_reducible first | exact HK.out | apply KeepBut.set_ | apply keep_drewN | apply keep_drew | apply keep_alloc) | exact HK.out)) hk (.inl rfl)); have n1_ := Aside0.mk (hb); have n2_ := Aside0.mk (hi); clear HK; clear HB; clear HI0; have HK := n0_; have HB := n1_; have HI0 := n2_; clear n0_ n1_ n2_; (try clear hb); (try clear hb2); (try clear hk); (try clear hi))))
        go_meet
        case rel => first | (exact ⟨_, (t119), (t120), (t121), (by first | rfl | (simp; done) | (simp [*]; done) | (rw [w64 (by omega) (by omega)]; done)), H', ⟨by first | omega | exact Nat.le_refl _⟩, ⟨by repeat (first | (with_reducible first | exact HI0.out | apply IsS47.alloc | apply IsS47.drewN | apply IsS47.drew | apply IsS47.set_0 | apply IsS47.set_1) | exact HI0.out)⟩, ⟨by repeat (first | (with_reducible first | exact HK.out | apply KeepBut.set_ | apply keep_drewN | apply keep_drew | apply keep_alloc) | exact HK.out)⟩, ⟨by repeat (first | (with_reducible first | exact HB.out | apply below_alloc | apply pw_below_drewN | apply below_drew1 | refine below_set ?_ (IsS47.ge HI0.out)) | exact HB.out)⟩⟩) | (subst_vars; exact ⟨_, (t119), (t120), (t121), (by first | rfl | (simp; done) | (simp [*]; done) | (rw [w64 (by omega) (by omega)]; done)), H', ⟨by first | omega | exact Nat.le_refl _⟩, ⟨by repeat (first | (with_reducible first | exact HI0.out | apply IsS47.alloc | apply IsS47.drewN | apply IsS47.drew | apply IsS47.set_0 | apply IsS47.set_1) | exact HI0.out)⟩, ⟨by repeat (first | (with_reducible first | exact HK.out | apply KeepBut.set_ | apply keep_drewN | apply keep_drew | apply keep_alloc) | exact HK.out)⟩, ⟨by repeat (first | (with_reducible first | exact HB.out | apply below_alloc | apply pw_below_drewN | apply below_drew1 | refine below_set ?_ (IsS47.ge HI0.out)) | exact HB.out)⟩⟩)
    case rest =>
      clear HC7
      try clear c1
      try clear p2
      try clear c4
      try clear p6
      try clear c13
      try clear hcz10_0
      try clear hcz10_1
      try clear hfz10_0
      try clear hfz10_1
      obtain ⟨kq, x18_6, x1000_6, x1001_6, rfl, HA, HJ6, HI0, HK, HB⟩ := hcut
      cases kq with
      | zero => exact absurd HA.out (by simp [attrs_reader_value.j0])
      | succ kj6 =>
        have H := HA.out
        clear HA
        simp only [attrs_reader_value.j0] at H
        by_cases c16 : x18_6 = true
        · subst c16
          have H1 : ((attrs_reader_quoted_o.f x1000_6 x1001_6).bind fun bt122 => (some (bt122.1, bt122.2.1, bt122.2.2.1, bt122.2.2.2))) = some (r1, r2, r3, r4) := by rw [if_pos rfl] at H; exact H
          clear H
          have H := H1
          clear H1
          replace H := Option.bind_eq_some_iff.mp H
          obtain ⟨⟨t122, t123, t124, t125⟩, A170, H⟩ := H
          replace H : (some (t122, t123, t124, t125)) = some (r1, r2, r3, r4) := H
          have A17 := Aside0.mk A170
          clear A170
          simp only [Option.some.injEq, Prod.mk.injEq] at H
          obtain ⟨rfl, rfl, rfl, rfl⟩ := H
          go_wp2_with (first | (go_at_call 27; (with_reducible refine (attrs_reader_quoted_o.calls g x1000_6 x1001_6 t122 t123 t124 t125 w0 _ ?side1 ?side2 A17.out).mono ?_); (case side1 => repeat (first | (with_reducible first | exact HI0.out | apply IsS47.alloc | apply IsS47.drewN | apply IsS47.drew | apply IsS47.set_0 | apply IsS47.set_1) | exact HI0.out)); (case side2 => repeat (first | (with_reducible first | exact HB.out | apply below_alloc | apply pw_below_drewN | apply below_drew1 | refine below_set ?_ (IsS47.ge HI0.out)) | exact HB.out)); rintro e w18 ⟨rfl, hi, hb, hk⟩; have n0_ := Aside0.mk (KeepBut.trans (by repeat (first | (with_reducible first | exact HK.out | apply KeepBut.set_ | apply keep_drewN | apply keep_drew | apply keep_alloc) | exact HK.out)) hk (.inl rfl)); have n1_ := Aside0.mk (hb); have n2_ := Aside0.mk (hi); clear HK; clear HB; clear HI0; have HK := n0_; have HB := n1_; have HI0 := n2_; clear n0_ n1_ n2_; (try clear hb); (try clear hb2); (try clear hk); (try clear hi)))
          repeat (go_quiet (first | (go_at_call 27; (with_reducible refine (attrs_reader_quoted_o.calls g x1000_6 x1001_6 t122 t123 t124 t125 w0 _ ?side1 ?side2 A17.out).mono ?_); (case side1 => repeat (first | (with_reducible first | exact HI0.out | apply IsS47.alloc | apply IsS47.drewN | apply IsS47.drew | apply IsS47.set_0 | apply IsS47.set_1) | exact HI0.out)); (case side2 => repeat (first | (with_reducible first | exact HB.out | apply below_alloc | apply pw_below_drewN | apply below_drew1 | refine below_set ?_ (IsS47.ge HI0.out)) | exact HB.out)); rintro e w18 ⟨rfl, hi, hb, hk⟩; have n0_ := Aside0.mk (KeepBut.trans (by repeat (first | (with_reducible first | exact HK.out | apply KeepBut.set_ | apply keep_drewN | apply keep_drew | apply keep_alloc) | exact HK.out)) hk (.inl rfl)); have n1_ := Aside0.mk (hb); have n2_ := Aside0.mk (hi); clear HK; clear HB; clear HI0; have HK := n0_; have HB := n1_; have HI0 := n2_; clear n0_ n1_ n2_; (try clear hb); (try clear hb2); (try clear hk); (try clear hi))); try go_wp2_with (first | (go_at_call 27; (with_reducible refine (attrs_reader_quoted_o.calls g x1000_6 x1001_6 t122 t123 t124 t125 w0 _ ?side1 ?side2 A17.out).mono ?_); (case side1 => repeat (first | (with_reducible first | exact HI0.out | apply IsS47.alloc | apply IsS47.drewN | apply IsS47.drew | apply IsS47.set_0 | apply IsS47.set_1) | exact HI0.out)); (case side2 => repeat (first | (with_reducible first | exact HB.out | apply below_alloc | apply pw_below_drewN | apply below_drew1 | refine below_set ?_ (IsS47.ge HI0.out)) | exact HB.out)); rintro e w18 ⟨rfl, hi, hb, hk⟩; have n0_ := Aside0.mk (KeepBut.trans (by repeat (first | (with_reducible first | exact HK.out | apply KeepBut.set_ | apply keep_drewN | apply keep_drew | apply keep_alloc) | exact HK.out)) hk (.inl rfl)); have n1_ := Aside0.mk (hb); have n2_ := Aside0.mk (hi); clear HK; clear HB; clear HI0; have HK := n0_; have HB := n1_; have HI0 := n2_; clear n0_ n1_ n2_; (try clear hb); (try clear hb2); (try clear hk); (try clear hi))))
          all_goals (first | (go_ret2; exact ⟨by first | rfl | (simp [errW_none, errW_some] <;> rfl) | (simp [*, errW_none, errW_some] <;> rfl) | (rw [w64 (by omega) (by omega)]; done), by repeat (first | (with_reducible first | exact HI0.out | apply IsS47.alloc | apply IsS47.drewN | apply IsS47.drew | apply IsS47.set_0 | apply IsS47.set_1) | exact HI0.out), by repeat (first | (with_reducible first | exact HB.out | apply below_alloc | apply pw_below_drewN | apply below_drew1 | refine below_set ?_ (IsS47.ge HI0.out)) | exact HB.out), by repeat (first | (with_reducible first | exact HK.out | apply KeepBut.set_ | apply keep_drewN | apply keep_drew | apply keep_alloc) | exact HK.out)⟩) | (exfalso; omega) | (rename_i h_; exfalso; simp [*] at h_; done))
        · replace c16 := Bool.eq_false_iff.mpr c16
          subst c16
          have H1 : ((attrs_reader_is.f x1000_6 x1001_6 62).bind fun bt126 => (if bt126.1 = true then (some ((⟨#[]⟩ : ByteArray), true, bt126.2.1, bt126.2.2)) else (if bt126.2.2 = (bt126.2.1.size : Int) then (some ((⟨#[]⟩ : ByteArray), true, bt126.2.1, bt126.2.2)) else ((attrs_reader_upTo_o.f bt126.2.1 bt126.2.2 (⟨#[62]⟩ : ByteArray)).bind fun bt129 => (some (bt129.1, true, bt129.2.1, bt129.2.2)))))) = some (r1, r2, r3, r4) := by rw [if_neg (show ¬ (false = true) by decide)] at H; exact H
          clear H
          have H := H1
          clear H1
          replace H := Option.bind_eq_some_iff.mp H
          obtain ⟨⟨t126, t127, t128⟩, A190, H⟩ := H
          replace H : (if t126 = true then (some ((⟨#[]⟩ : ByteArray), true, t127, t128)) else (if t128 = (t127.size : Int) then (some ((⟨#[]⟩ : ByteArray), true, t127, t128)) else ((attrs_reader_upTo_o.f t127 t128 (⟨#[62]⟩ : ByteArray)).bind fun bt129 => (some (bt129.1, true, bt129.2.1, bt129.2.2))))) = some (r1, r2, r3, r4) := H
          have A19 := Aside0.mk A190
          clear A190
          by_cases c20 : t126 = true
          · subst c20
            have H1 : (some ((⟨#[]⟩ : ByteArray), true, t127, t128)) = some (r1, r2, r3, r4) := by rw [if_pos rfl] at H; exact H
            clear H
            have H := H1
            clear H1
            simp only [Option.some.injEq, Prod.mk.injEq] at H
            obtain ⟨rfl, rfl, rfl, rfl⟩ := H
            go_wp2_with (first | (go_at_call 17; (with_reducible refine (attrs_reader_is.calls g x1000_6 x1001_6 62 true t127 t128 w0 _ ?side1 ?side2 A19.out).mono ?_); (case side1 => repeat (first | (with_reducible first | exact HI0.out | apply IsS47.alloc | apply IsS47.drewN | apply IsS47.drew | apply IsS47.set_0 | apply IsS47.set_1) | exact HI0.out)); (case side2 => repeat (first | (with_reducible first | exact HB.out | apply below_alloc | apply pw_below_drewN | apply below_drew1 | refine below_set ?_ (IsS47.ge HI0.out)) | exact HB.out)); rintro e w21 ⟨rfl, hi, hb, hk⟩; have n0_ := Aside0.mk (KeepBut.trans (by repeat (first | (with_reducible first | exact HK.out | apply KeepBut.set_ | apply keep_drewN | apply keep_drew | apply keep_alloc) | exact HK.out)) hk (.inl rfl)); have n1_ := Aside0.mk (hb); have n2_ := Aside0.mk (hi); clear HK; clear HB; clear HI0; have HK := n0_; have HB := n1_; have HI0 := n2_; clear n0_ n1_ n2_; (try clear hb); (try clear hb2); (try clear hk); (try clear hi)))
            repeat (go_quiet (first | (go_at_call 17; (with_reducible refine (attrs_reader_is.calls g x1000_6 x1001_6 62 true t127 t128 w0 _ ?side1 ?side2 A19.out).mono ?_); (case side1 => repeat (first | (with_reducible first | exact HI0.out | apply IsS47.alloc | apply IsS47.drewN | apply IsS47.drew | apply IsS47.set_0 | apply IsS47.set_1) | exact HI0.out)); (case side2 => repeat (first | (with_reducible first | exact HB.out | apply below_alloc | apply pw_below_drewN | apply below_drew1 | refine below_set ?_ (IsS47.ge HI0.out)) | exact HB.out)); rintro e w21 ⟨rfl, hi, hb, hk⟩; have n0_ := Aside0.mk (KeepBut.trans (by repeat (first | (with_reducible first | exact HK.out | apply KeepBut.set_ | apply keep_drewN | apply keep_drew | apply keep_alloc) | exact HK.out)) hk (.inl rfl)); have n1_ := Aside0.mk (hb); have n2_ := Aside0.mk (hi); clear HK; clear HB; clear HI0; have HK := n0_; have HB := n1_; have HI0 := n2_; clear n0_ n1_ n2_; (try clear hb); (try clear hb2); (try clear hk); (try clear hi))); try go_wp2_with (first | (go_at_call 17; (with_reducible refine (attrs_reader_is.calls g x1000_6 x1001_6 62 true t127 t128 w0 _ ?side1 ?side2 A19.out).mono ?_); (case side1 => repeat (first | (with_reducible first | exact HI0.out | apply IsS47.alloc | apply IsS47.drewN | apply IsS47.drew | apply IsS47.set_0 | apply IsS47.set_1) | exact HI0.out)); (case side2 => repeat (first | (with_reducible first | exact HB.out | apply below_alloc | apply pw_below_drewN | apply below_drew1 | refine below_set ?_ (IsS47.ge HI0.out)) | exact HB.out)); rintro e w21 ⟨rfl, hi, hb, hk⟩; have n0_ := Aside0.mk (KeepBut.trans (by repeat (first | (with_reducible first | exact HK.out | apply KeepBut.set_ | apply keep_drewN | apply keep_drew | apply keep_alloc) | exact HK.out)) hk (.inl rfl)); have n1_ := Aside0.mk (hb); have n2_ := Aside0.mk (hi); clear HK; clear HB; clear HI0; have HK := n0_; have HB := n1_; have HI0 := n2_; clear n0_ n1_ n2_; (try clear hb); (try clear hb2); (try clear hk); (try clear hi))))
            all_goals (first | (go_ret2; exact ⟨by first | rfl | (simp [errW_none, errW_some] <;> rfl) | (simp [*, errW_none, errW_some] <;> rfl) | (rw [w64 (by omega) (by omega)]; done), by repeat (first | (with_reducible first | exact HI0.out | apply IsS47.alloc | apply IsS47.drewN | apply IsS47.drew | apply IsS47.set_0 | apply IsS47.set_1) | exact HI0.out), by repeat (first | (with_reducible first | exact HB.out | apply below_alloc | apply pw_below_drewN | apply below_drew1 | refine below_set ?_ (IsS47.ge HI0.out)) | exact HB.out), by repeat (first | (with_reducible first | exact HK.out | apply KeepBut.set_ | apply keep_drewN | apply keep_drew | apply keep_alloc) | exact HK.out)⟩) | (exfalso; omega) | (rename_i h_; exfalso; simp [*] at h_; done))
          · replace c20 := Bool.eq_false_iff.mpr c20
            subst c20
            have H1 : (if t128 = (t127.size : Int) then (some ((⟨#[]⟩ : ByteArray), true, t127, t128)) else ((attrs_reader_upTo_o.f t127 t128 (⟨#[62]⟩ : ByteArray)).bind fun bt129 => (some (bt129.1, true, bt129.2.1, bt129.2.2)))) = some (r1, r2, r3, r4) := by rw [if_neg (show ¬ (false = true) by decide)] at H; exact H
            clear H
            have H := H1
            clear H1
            by_cases c22 : t128 = (t127.size : Int)
            · rw [if_pos c22] at H
              have c22b0 : (t128 == (t127.size : Int)) = true := beq_iff_eq.mpr c22
              have c22b1 : (t128 != (t127.size : Int)) = false := bne_eq_false_iff_eq.mpr c22
              clear c22
              simp only [Option.some.injEq, Prod.mk.injEq] at H
              obtain ⟨rfl, rfl, rfl, rfl⟩ := H
              go_wp2_with (first | (go_at_call 17; (with_reducible refine (attrs_reader_is.calls g x1000_6 x1001_6 62 false t127 t128 w0 _ ?side1 ?side2 A19.out).mono ?_); (case side1 => repeat (first | (with_reducible first | exact HI0.out | apply IsS47.alloc | apply IsS47.drewN | apply IsS47.drew | apply IsS47.set_0 | apply IsS47.set_1) | exact HI0.out)); (case side2 => repeat (first | (with_reducible first | exact HB.out | apply below_alloc | apply pw_below_drewN | apply below_drew1 | refine below_set ?_ (IsS47.ge HI0.out)) | exact HB.out)); rintro e w23 ⟨rfl, hi, hb, hk⟩; have n0_ := Aside0.mk (KeepBut.trans (by repeat (first | (with_reducible first | exact HK.out | apply KeepBut.set_ | apply keep_drewN | apply keep_drew | apply keep_alloc) | exact HK.out)) hk (.inl rfl)); have n1_ := Aside0.mk (hb); have n2_ := Aside0.mk (hi); clear HK; clear HB; clear HI0; have HK := n0_; have HB := n1_; have HI0 := n2_; clear n0_ n1_ n2_; (try clear hb); (try clear hb2); (try clear hk); (try clear hi); obtain ⟨HGz24, hgz24⟩ := HI0.out; have hcz24_0 := cellS47_0 HGz24; have hcz24_1 := cellS47_1 HGz24; have hfz24_0 := blk_frozen HGz24 0; have hfz24_1 := blk_frozen HGz24 1; clear HGz24 hgz24))
              repeat (go_quiet (first | (go_at_call 17; (with_reducible refine (attrs_reader_is.calls g x1000_6 x1001_6 62 false t127 t128 w0 _ ?side1 ?side2 A19.out).mono ?_); (case side1 => repeat (first | (with_reducible first | exact HI0.out | apply IsS47.alloc | apply IsS47.drewN | apply IsS47.drew | apply IsS47.set_0 | apply IsS47.set_1) | exact HI0.out)); (case side2 => repeat (first | (with_reducible first | exact HB.out | apply below_alloc | apply pw_below_drewN | apply below_drew1 | refine below_set ?_ (IsS47.ge HI0.out)) | exact HB.out)); rintro e w23 ⟨rfl, hi, hb, hk⟩; have n0_ := Aside0.mk (KeepBut.trans (by repeat (first | (with_reducible first | exact HK.out | apply KeepBut.set_ | apply keep_drewN | apply keep_drew | apply keep_alloc) | exact HK.out)) hk (.inl rfl)); have n1_ := Aside0.mk (hb); have n2_ := Aside0.mk (hi); clear HK; clear HB; clear HI0; have HK := n0_; have HB := n1_; have HI0 := n2_; clear n0_ n1_ n2_; (try clear hb); (try clear hb2); (try clear hk); (try clear hi); obtain ⟨HGz24, hgz24⟩ := HI0.out; have hcz24_0 := cellS47_0 HGz24; have hcz24_1 := cellS47_1 HGz24; have hfz24_0 := blk_frozen HGz24 0; have hfz24_1 := blk_frozen HGz24 1; clear HGz24 hgz24)); try go_wp2_with (first | (go_at_call 17; (with_reducible refine (attrs_reader_is.calls g x1000_6 x1001_6 62 false t127 t128 w0 _ ?side1 ?side2 A19.out).mono ?_); (case side1 => repeat (first | (with_reducible first | exact HI0.out | apply IsS47.alloc | apply IsS47.drewN | apply IsS47.drew | apply IsS47.set_0 | apply IsS47.set_1) | exact HI0.out)); (case side2 => repeat (first | (with_reducible first | exact HB.out | apply below_alloc | apply pw_below_drewN | apply below_drew1 | refine below_set ?_ (IsS47.ge HI0.out)) | exact HB.out)); rintro e w23 ⟨rfl, hi, hb, hk⟩; have n0_ := Aside0.mk (KeepBut.trans (by repeat (first | (with_reducible first | exact HK.out | apply KeepBut.set_ | apply keep_drewN | apply keep_drew | apply keep_alloc) | exact HK.out)) hk (.inl rfl)); have n1_ := Aside0.mk (hb); have n2_ := Aside0.mk (hi); clear HK; clear HB; clear HI0; have HK := n0_; have HB := n1_; have HI0 := n2_; clear n0_ n1_ n2_; (try clear hb); (try clear hb2); (try clear hk); (try clear hi); obtain ⟨HGz24, hgz24⟩ := HI0.out; have hcz24_0 := cellS47_0 HGz24; have hcz24_1 := cellS47_1 HGz24; have hfz24_0 := blk_frozen HGz24 0; have hfz24_1 := blk_frozen HGz24 1; clear HGz24 hgz24)))
              all_goals (first | (go_ret2; exact ⟨by first | rfl | (simp [errW_none, errW_some] <;> rfl) | (simp [*, errW_none, errW_some] <;> rfl) | (rw [w64 (by omega) (by omega)]; done), by repeat (first | (with_reducible first | exact HI0.out | apply IsS47.alloc | apply IsS47.drewN | apply IsS47.drew | apply IsS47.set_0 | apply IsS47.set_1) | exact HI0.out), by repeat (first | (with_reducible first | exact HB.out | apply below_alloc | apply pw_below_drewN | apply below_drew1 | refine below_set ?_ (IsS47.ge HI0.out)) | exact HB.out), by repeat (first | (with_reducible first | exact HK.out | apply KeepBut.set_ | apply keep_drewN | apply keep_drew | apply keep_alloc) | exact HK.out)⟩) | (exfalso; omega) | (rename_i h_; exfalso; simp [*] at h_; done))
            · rw [if_neg c22] at H
              have c22b0 : (t128 == (t127.size : Int)) = false := beq_eq_false_iff_ne.mpr c22
              have c22b1 : (t128 != (t127.size : Int)) = true := bne_iff_ne.mpr c22
              replace H := Option.bind_eq_some_iff.mp H
              obtain ⟨⟨t129, t130, t131⟩, A250, H⟩ := H
              replace H : (some (t129, true, t130, t131)) = some (r1, r2, r3, r4) := H
              have A25 := Aside0.mk A250
              clear A250
              simp only [Option.some.injEq, Prod.mk.injEq] at H
              obtain ⟨rfl, rfl, rfl, rfl⟩ := H
              go_wp2_with (first | (go_at_call 17; (with_reducible refine (attrs_reader_is.calls g x1000_6 x1001_6 62 false t127 t128 w0 _ ?side1 ?side2 A19.out).mono ?_); (case side1 => repeat (first | (with_reducible first | exact HI0.out | apply IsS47.alloc | apply IsS47.drewN | apply IsS47.drew | apply IsS47.set_0 | apply IsS47.set_1) | exact HI0.out)); (case side2 => repeat (first | (with_reducible first | exact HB.out | apply below_alloc | apply pw_below_drewN | apply below_drew1 | refine below_set ?_ (IsS47.ge HI0.out)) | exact HB.out)); rintro e w26 ⟨rfl, hi, hb, hk⟩; have n0_ := Aside0.mk (KeepBut.trans (by repeat (first | (with_reducible first | exact HK.out | apply KeepBut.set_ | apply keep_drewN | apply keep_drew | apply keep_alloc) | exact HK.out)) hk (.inl rfl)); have n1_ := Aside0.mk (hb); have n2_ := Aside0.mk (hi); clear HK; clear HB; clear HI0; have HK := n0_; have HB := n1_; have HI0 := n2_; clear n0_ n1_ n2_; (try clear hb); (try clear hb2); (try clear hk); (try clear hi); obtain ⟨HGz27, hgz27⟩ := HI0.out; have hcz27_0 := cellS47_0 HGz27; have hcz27_1 := cellS47_1 HGz27; have hfz27_0 := blk_frozen HGz27 0; have hfz27_1 := blk_frozen HGz27 1; clear HGz27 hgz27) | (go_at_call 18; (with_reducible refine (attrs_reader_upTo_o.calls g t127 t128 (⟨#[62]⟩ : ByteArray) t129 t130 t131 w0 _ ?side1 ?side2 A25.out).mono ?_); (case side1 => repeat (first | (with_reducible first | exact HI0.out | apply IsS47.alloc | apply IsS47.drewN | apply IsS47.drew | apply IsS47.set_0 | apply IsS47.set_1) | exact HI0.out)); (case side2 => repeat (first | (with_reducible first | exact HB.out | apply below_alloc | apply pw_below_drewN | apply below_drew1 | refine below_set ?_ (IsS47.ge HI0.out)) | exact HB.out)); rintro e w28 ⟨rfl, hi, hb, hk⟩; have n0_ := Aside0.mk (KeepBut.trans (by repeat (first | (with_reducible first | exact HK.out | apply KeepBut.set_ | apply keep_drewN | apply keep_drew | apply keep_alloc) | exact HK.out)) hk (.inl rfl)); have n1_ := Aside0.mk (hb); have n2_ := Aside0.mk (hi); clear HK; clear HB; clear HI0; have HK := n0_; have HB := n1_; have HI0 := n2_; clear n0_ n1_ n2_; (try clear hb); (try clear hb2); (try clear hk); (try clear hi)))
              repeat (go_quiet (first | (go_at_call 17; (with_reducible refine (attrs_reader_is.calls g x1000_6 x1001_6 62 false t127 t128 w0 _ ?side1 ?side2 A19.out).mono ?_); (case side1 => repeat (first | (with_reducible first | exact HI0.out | apply IsS47.alloc | apply IsS47.drewN | apply IsS47.drew | apply IsS47.set_0 | apply IsS47.set_1) | exact HI0.out)); (case side2 => repeat (first | (with_reducible first | exact HB.out | apply below_alloc | apply pw_below_drewN | apply below_drew1 | refine below_set ?_ (IsS47.ge HI0.out)) | exact HB.out)); rintro e w26 ⟨rfl, hi, hb, hk⟩; have n0_ := Aside0.mk (KeepBut.trans (by repeat (first | (with_reducible first | exact HK.out | apply KeepBut.set_ | apply keep_drewN | apply keep_drew | apply keep_alloc) | exact HK.out)) hk (.inl rfl)); have n1_ := Aside0.mk (hb); have n2_ := Aside0.mk (hi); clear HK; clear HB; clear HI0; have HK := n0_; have HB := n1_; have HI0 := n2_; clear n0_ n1_ n2_; (try clear hb); (try clear hb2); (try clear hk); (try clear hi); obtain ⟨HGz27, hgz27⟩ := HI0.out; have hcz27_0 := cellS47_0 HGz27; have hcz27_1 := cellS47_1 HGz27; have hfz27_0 := blk_frozen HGz27 0; have hfz27_1 := blk_frozen HGz27 1; clear HGz27 hgz27) | (go_at_call 18; (with_reducible refine (attrs_reader_upTo_o.calls g t127 t128 (⟨#[62]⟩ : ByteArray) t129 t130 t131 w0 _ ?side1 ?side2 A25.out).mono ?_); (case side1 => repeat (first | (with_reducible first | exact HI0.out | apply IsS47.alloc | apply IsS47.drewN | apply IsS47.drew | apply IsS47.set_0 | apply IsS47.set_1) | exact HI0.out)); (case side2 => repeat (first | (with_reducible first | exact HB.out | apply below_alloc | apply pw_below_drewN | apply below_drew1 | refine below_set ?_ (IsS47.ge HI0.out)) | exact HB.out)); rintro e w28 ⟨rfl, hi, hb, hk⟩; have n0_ := Aside0.mk (KeepBut.trans (by repeat (first | (with_reducible first | exact HK.out | apply KeepBut.set_ | apply keep_drewN | apply keep_drew | apply keep_alloc) | exact HK.out)) hk (.inl rfl)); have n1_ := Aside0.mk (hb); have n2_ := Aside0.mk (hi); clear HK; clear HB; clear HI0; have HK := n0_; have HB := n1_; have HI0 := n2_; clear n0_ n1_ n2_; (try clear hb); (try clear hb2); (try clear hk); (try clear hi))); try go_wp2_with (first | (go_at_call 17; (with_reducible refine (attrs_reader_is.calls g x1000_6 x1001_6 62 false t127 t128 w0 _ ?side1 ?side2 A19.out).mono ?_); (case side1 => repeat (first | (with_reducible first | exact HI0.out | apply IsS47.alloc | apply IsS47.drewN | apply IsS47.drew | apply IsS47.set_0 | apply IsS47.set_1) | exact HI0.out)); (case side2 => repeat (first | (with_reducible first | exact HB.out | apply below_alloc | apply pw_below_drewN | apply below_drew1 | refine below_set ?_ (IsS47.ge HI0.out)) | exact HB.out)); rintro e w26 ⟨rfl, hi, hb, hk⟩; have n0_ := Aside0.mk (KeepBut.trans (by repeat (first | (with_reducible first | exact HK.out | apply KeepBut.set_ | apply keep_drewN | apply keep_drew | apply keep_alloc) | exact HK.out)) hk (.inl rfl)); have n1_ := Aside0.mk (hb); have n2_ := Aside0.mk (hi); clear HK; clear HB; clear HI0; have HK := n0_; have HB := n1_; have HI0 := n2_; clear n0_ n1_ n2_; (try clear hb); (try clear hb2); (try clear hk); (try clear hi); obtain ⟨HGz27, hgz27⟩ := HI0.out; have hcz27_0 := cellS47_0 HGz27; have hcz27_1 := cellS47_1 HGz27; have hfz27_0 := blk_frozen HGz27 0; have hfz27_1 := blk_frozen HGz27 1; clear HGz27 hgz27) | (go_at_call 18; (with_reducible refine (attrs_reader_upTo_o.calls g t127 t128 (⟨#[62]⟩ : ByteArray) t129 t130 t131 w0 _ ?side1 ?side2 A25.out).mono ?_); (case side1 => repeat (first | (with_reducible first | exact HI0.out | apply IsS47.alloc | apply IsS47.drewN | apply IsS47.drew | apply IsS47.set_0 | apply IsS47.set_1) | exact HI0.out)); (case side2 => repeat (first | (with_reducible first | exact HB.out | apply below_alloc | apply pw_below_drewN | apply below_drew1 | refine below_set ?_ (IsS47.ge HI0.out)) | exact HB.out)); rintro e w28 ⟨rfl, hi, hb, hk⟩; have n0_ := Aside0.mk (KeepBut.trans (by repeat (first | (with_reducible first | exact HK.out | apply KeepBut.set_ | apply keep_drewN | apply keep_drew | apply keep_alloc) | exact HK.out)) hk (.inl rfl)); have n1_ := Aside0.mk (hb); have n2_ := Aside0.mk (hi); clear HK; clear HB; clear HI0; have HK := n0_; have HB := n1_; have HI0 := n2_; clear n0_ n1_ n2_; (try clear hb); (try clear hb2); (try clear hk); (try clear hi))))
              all_goals (first | (go_ret2; exact ⟨by first | rfl | (simp [errW_none, errW_some] <;> rfl) | (simp [*, errW_none, errW_some] <;> rfl) | (rw [w64 (by omega) (by omega)]; done), by repeat (first | (with_reducible first | exact HI0.out | apply IsS47.alloc | apply IsS47.drewN | apply IsS47.drew | apply IsS47.set_0 | apply IsS47.set_1) | exact HI0.out), by repeat (first | (with_reducible first | exact HB.out | apply below_alloc | apply pw_below_drewN | apply below_drew1 | refine below_set ?_ (IsS47.ge HI0.out)) | exact HB.out), by repeat (first | (with_reducible first | exact HK.out | apply KeepBut.set_ | apply keep_drewN | apply keep_drew | apply keep_alloc) | exact HK.out)⟩) | (exfalso; omega) | (rename_i h_; exfalso; simp [*] at h_; done))
  · replace c4 := Bool.eq_false_iff.mpr c4
    subst c4
    have H1 : (some ((⟨#[]⟩ : ByteArray), true, t112, t113)) = some (r1, r2, r3, r4) := by rw [if_neg (show ¬ (false = true) by decide)] at H; exact H
    clear H
    have H := H1
    clear H1
    simp only [Option.some.injEq, Prod.mk.injEq] at H
    obtain ⟨rfl, rfl, rfl, rfl⟩ := H
    go_enter Tryd.func19, Tryd.ntmps19
    go_wp2_with (first | (go_at_call 16; (with_reducible refine (attrs_reader_spaces_o.calls g s0_0 s0_1 t109 t110 w0 _ ?side1 ?side2 A2.out).mono ?_); (case side1 => repeat (first | (with_reducible first | exact HI0.out | apply IsS47.alloc | apply IsS47.drewN | apply IsS47.drew | apply IsS47.set_0 | apply IsS47.set_1) | exact HI0.out)); (case side2 => repeat (first | (with_reducible first | exact HB.out | apply below_alloc | apply pw_below_drewN | apply below_drew1 | refine below_set ?_ (IsS47.ge HI0.out)) | exact HB.out)); rintro e w29 ⟨rfl, hi, hb, hk⟩; have n0_ := Aside0.mk (KeepBut.trans (by repeat (first | (with_reducible first | exact HK.out | apply KeepBut.set_ | apply keep_drewN | apply keep_drew | apply keep_alloc) | exact HK.out)) hk (.inl rfl)); have n1_ := Aside0.mk (hb); have n2_ := Aside0.mk (hi); clear HK; clear HB; clear HI0; have HK := n0_; have HB := n1_; have HI0 := n2_; clear n0_ n1_ n2_; (try clear hb); (try clear hb2); (try clear hk); (try clear hi)) | (go_at_call 17; (with_reducible refine (attrs_reader_is.calls g t109 t110 61 false t112 t113 w0 _ ?side1 ?side2 A3.out).mono ?_); (case side1 => repeat (first | (with_reducible first | exact HI0.out | apply IsS47.alloc | apply IsS47.drewN | apply IsS47.drew | apply IsS47.set_0 | apply IsS47.set_1) | exact HI0.out)); (case side2 => repeat (first | (with_reducible first | exact HB.out | apply below_alloc | apply pw_below_drewN | apply below_drew1 | refine below_set ?_ (IsS47.ge HI0.out)) | exact HB.out)); rintro e w30 ⟨rfl, hi, hb, hk⟩; have n0_ := Aside0.mk (KeepBut.trans (by repeat (first | (with_reducible first | exact HK.out | apply KeepBut.set_ | apply keep_drewN | apply keep_drew | apply keep_alloc) | exact HK.out)) hk (.inl rfl)); have n1_ := Aside0.mk (hb); have n2_ := Aside0.mk (hi); clear HK; clear HB; clear HI0; have HK := n0_; have HB := n1_; have HI0 := n2_; clear n0_ n1_ n2_; (try clear hb); (try clear hb2); (try clear hk); (try clear hi)))
    repeat (go_quiet (first | (go_at_call 16; (with_reducible refine (attrs_reader_spaces_o.calls g s0_0 s0_1 t109 t110 w0 _ ?side1 ?side2 A2.out).mono ?_); (case side1 => repeat (first | (with_reducible first | exact HI0.out | apply IsS47.alloc | apply IsS47.drewN | apply IsS47.drew | apply IsS47.set_0 | apply IsS47.set_1) | exact HI0.out)); (case side2 => repeat (first | (with_reducible first | exact HB.out | apply below_alloc | apply pw_below_drewN | apply below_drew1 | refine below_set ?_ (IsS47.ge HI0.out)) | exact HB.out)); rintro e w29 ⟨rfl, hi, hb, hk⟩; have n0_ := Aside0.mk (KeepBut.trans (by repeat (first | (with_reducible first | exact HK.out | apply KeepBut.set_ | apply keep_drewN | apply keep_drew | apply keep_alloc) | exact HK.out)) hk (.inl rfl)); have n1_ := Aside0.mk (hb); have n2_ := Aside0.mk (hi); clear HK; clear HB; clear HI0; have HK := n0_; have HB := n1_; have HI0 := n2_; clear n0_ n1_ n2_; (try clear hb); (try clear hb2); (try clear hk); (try clear hi)) | (go_at_call 17; (with_reducible refine (attrs_reader_is.calls g t109 t110 61 false t112 t113 w0 _ ?side1 ?side2 A3.out).mono ?_); (case side1 => repeat (first | (with_reducible first | exact HI0.out | apply IsS47.alloc | apply IsS47.drewN | apply IsS47.drew | apply IsS47.set_0 | apply IsS47.set_1) | exact HI0.out)); (case side2 => repeat (first | (with_reducible first | exact HB.out | apply below_alloc | apply pw_below_drewN | apply below_drew1 | refine below_set ?_ (IsS47.ge HI0.out)) | exact HB.out)); rintro e w30 ⟨rfl, hi, hb, hk⟩; have n0_ := Aside0.mk (KeepBut.trans (by repeat (first | (with_reducible first | exact HK.out | apply KeepBut.set_ | apply keep_drewN | apply keep_drew | apply keep_alloc) | exact HK.out)) hk (.inl rfl)); have n1_ := Aside0.mk (hb); have n2_ := Aside0.mk (hi); clear HK; clear HB; clear HI0; have HK := n0_; have HB := n1_; have HI0 := n2_; clear n0_ n1_ n2_; (try clear hb); (try clear hb2); (try clear hk); (try clear hi))); try go_wp2_with (first | (go_at_call 16; (with_reducible refine (attrs_reader_spaces_o.calls g s0_0 s0_1 t109 t110 w0 _ ?side1 ?side2 A2.out).mono ?_); (case side1 => repeat (first | (with_reducible first | exact HI0.out | apply IsS47.alloc | apply IsS47.drewN | apply IsS47.drew | apply IsS47.set_0 | apply IsS47.set_1) | exact HI0.out)); (case side2 => repeat (first | (with_reducible first | exact HB.out | apply below_alloc | apply pw_below_drewN | apply below_drew1 | refine below_set ?_ (IsS47.ge HI0.out)) | exact HB.out)); rintro e w29 ⟨rfl, hi, hb, hk⟩; have n0_ := Aside0.mk (KeepBut.trans (by repeat (first | (with_reducible first | exact HK.out | apply KeepBut.set_ | apply keep_drewN | apply keep_drew | apply keep_alloc) | exact HK.out)) hk (.inl rfl)); have n1_ := Aside0.mk (hb); have n2_ := Aside0.mk (hi); clear HK; clear HB; clear HI0; have HK := n0_; have HB := n1_; have HI0 := n2_; clear n0_ n1_ n2_; (try clear hb); (try clear hb2); (try clear hk); (try clear hi)) | (go_at_call 17; (with_reducible refine (attrs_reader_is.calls g t109 t110 61 false t112 t113 w0 _ ?side1 ?side2 A3.out).mono ?_); (case side1 => repeat (first | (with_reducible first | exact HI0.out | apply IsS47.alloc | apply IsS47.drewN | apply IsS47.drew | apply IsS47.set_0 | apply IsS47.set_1) | exact HI0.out)); (case side2 => repeat (first | (with_reducible first | exact HB.out | apply below_alloc | apply pw_below_drewN | apply below_drew1 | refine below_set ?_ (IsS47.ge HI0.out)) | exact HB.out)); rintro e w30 ⟨rfl, hi, hb, hk⟩; have n0_ := Aside0.mk (KeepBut.trans (by repeat (first | (with_reducible first | exact HK.out | apply KeepBut.set_ | apply keep_drewN | apply keep_drew | apply keep_alloc) | exact HK.out)) hk (.inl rfl)); have n1_ := Aside0.mk (hb); have n2_ := Aside0.mk (hi); clear HK; clear HB; clear HI0; have HK := n0_; have HB := n1_; have HI0 := n2_; clear n0_ n1_ n2_; (try clear hb); (try clear hb2); (try clear hk); (try clear hi))))
    all_goals (first | (go_ret2; exact ⟨by first | rfl | (simp [errW_none, errW_some] <;> rfl) | (simp [*, errW_none, errW_some] <;> rfl) | (rw [w64 (by omega) (by omega)]; done), by repeat (first | (with_reducible first | exact HI0.out | apply IsS47.alloc | apply IsS47.drewN | apply IsS47.drew | apply IsS47.set_0 | apply IsS47.set_1) | exact HI0.out), by repeat (first | (with_reducible first | exact HB.out | apply below_alloc | apply pw_below_drewN | apply below_drew1 | refine below_set ?_ (IsS47.ge HI0.out)) | exact HB.out), by repeat (first | (with_reducible first | exact HK.out | apply KeepBut.set_ | apply keep_drewN | apply keep_drew | apply keep_alloc) | exact HK.out)⟩) | (exfalso; omega) | (rename_i h_; exfalso; simp [*] at h_; done))

/-! attrs_reader_value, told over -/
def attrs_reader_value_o.f (s0_0 : ByteArray) (s0_1 : Int) : Option (ByteArray × Bool × ByteArray × Int) := if s0_0.size ≤ 1099511627776 ∧ 0 ≤ s0_1 ∧ s0_1 ≤ s0_0.size then some (bs (valU ((lb s0_0).drop s0_1.toNat)).1, (valU ((lb s0_0).drop s0_1.toNat)).2.2, s0_0, ((s0_1.toNat + (valU ((lb s0_0).drop s0_1.toNat)).2.1 : Nat) : Int)) else none
theorem attrs_is_at (s : ByteArray) (p : Nat) (c : Int) : attrs_reader_is.f s (p : Int) c = some (decide (p < s.size) && bt s (p : Int) == c, s, (p : Int)) := by
  rw [attrs_reader_is.f]
  by_cases h : p < s.size
  · rw [if_pos (by omega), if_pos (by omega), decide_eq_true h, Bool.true_and]
  · rw [if_neg (by omega), decide_eq_false h, Bool.false_and]
theorem spaces_at (s : ByteArray) (p : Nat) (hs : s.size ≤ 1099511627776) (hp : p ≤ s.size) : attrs_reader_spaces_o.f s (p : Int) = some (s, ((p + spU ((lb s).drop p) : Nat) : Int)) := by
  rw [attrs_reader_spaces_o.f, if_pos ⟨hs, by omega, by omega⟩, Int.toNat_natCast]
theorem headA (s : ByteArray) (p : Nat) (c : UInt8) : (decide (p < s.size) && bt s (p : Int) == (c.toNat : Int)) = ((lb s).drop p).head?.any (· == c) := by
  have hl := length_lb s
  by_cases h : p < (lb s).length
  · rw [decide_eq_true (by omega), Bool.true_and, bt_getA s p h, List.drop_eq_getElem_cons h, List.head?_cons, Option.any_some, Bool.eq_iff_iff, beq_iff_eq, beq_iff_eq]
    exact ⟨fun e => UInt8.toNat_inj.1 (by omega), fun e => by rw [e]⟩
  · rw [decide_eq_false (by omega), Bool.false_and, List.drop_of_length_le (by omega)]; rfl
theorem is_atA (s : ByteArray) (p : Nat) (c : UInt8) (d : Int) (hd : d = (c.toNat : Int)) : attrs_reader_is.f s (p : Int) d = some (((lb s).drop p).head?.any (· == c), s, (p : Int)) := by rw [attrs_is_at, hd, headA]
theorem upTo_at (s : ByteArray) (p : Nat) (e : ByteArray) (hs : s.size ≤ 1099511627776) (hp : p < s.size) : attrs_reader_upTo_o.f s (p : Int) e = some (bs (((lb s).drop p).take (upU (lb e) ((lb s).drop p))), s, ((p + upU (lb e) ((lb s).drop p) : Nat) : Int)) := by
  rw [attrs_reader_upTo_o.f, if_pos ⟨hs, by omega, by omega⟩, Int.toNat_natCast]
theorem quoted_at (s : ByteArray) (p : Nat) (hs : s.size ≤ 1099511627776) (hp : p < s.size) : attrs_reader_quoted_o.f s (p : Int) = some (bs (qtU ((lb s).drop p)).1, (qtU ((lb s).drop p)).2.2, s, ((p + (qtU ((lb s).drop p)).2.1 : Nat) : Int)) := by
  rw [attrs_reader_quoted_o.f, if_pos ⟨hs, by omega, by omega⟩, Int.toNat_natCast]
theorem someA {s : ByteArray} {p : Nat} {c : UInt8} (h : ((lb s).drop p).head?.any (· == c) = true) : p < s.size := by
  have hl := length_lb s
  rcases Nat.lt_or_ge p s.size with x | x
  · exact x
  · rw [List.drop_of_length_le (by omega)] at h; cases h
theorem attrs_reader_value.end (k : Nat) (s : ByteArray) (p : Nat) (q : Bool) (hs : s.size ≤ 1099511627776) (hp : p ≤ s.size)
    (hq : (q = true ∧ (((lb s).drop p).head?.any (· == 34) = true ∨ ((lb s).drop p).head?.any (· == 39) = true)) ∨ (q = false ∧ ((lb s).drop p).head?.any (· == 34) = false ∧ ((lb s).drop p).head?.any (· == 39) = false)) :
    attrs_reader_value.j0 (k + 1) q s (p : Int) = some (bs (vlU ((lb s).drop p)).1, (vlU ((lb s).drop p)).2.2, s, ((p + (vlU ((lb s).drop p)).2.1 : Nat) : Int)) := by
  have hl := length_lb s
  rw [attrs_reader_value.j0]
  rcases hq with ⟨rfl, h⟩ | ⟨rfl, h1, h2⟩
  · have hlt : p < s.size := by rcases h with x | x <;> exact someA x
    rw [if_pos rfl, quoted_at s p hs hlt, Option.bind_some, vlU_quote _ h]
  · rw [if_neg (by decide), is_atA s p 62 62 rfl, Option.bind_some, vlU_else _ h1 h2]
    dsimp only
    by_cases c : ((lb s).drop p).head?.any (· == 62) = true
    · rw [if_pos c, if_pos (.inl c)]; rfl
    rw [if_neg c]
    by_cases z : p = s.size
    · rw [if_pos (by omega), if_pos (.inr (List.drop_of_length_le (by omega)))]; rfl
    · have hne : (lb s).drop p ≠ [] := fun e => by have := congrArg List.length e; rw [List.length_drop, List.length_nil] at this; omega
      rw [if_neg (by omega), if_neg (by rintro (x | x); exact c x; exact hne x), upTo_at s p _ hs (by omega), Option.bind_some]; rfl
theorem attrs_reader_value_o.sound (s0_0 : ByteArray) (s0_1 : Int) (r : ByteArray × Bool × ByteArray × Int) (h : attrs_reader_value_o.f s0_0 s0_1 = some r) : ∃ k, attrs_reader_value.f k s0_0 s0_1 = some r := by
  unfold attrs_reader_value_o.f at h
  split at h
  · rename_i hs
    obtain ⟨p, rfl⟩ := Int.eq_ofNat_of_zero_le hs.2.1
    refine ⟨1, ?_⟩
    have hl := length_lb s0_0
    have h1 := spU_le ((lb s0_0).drop p)
    rw [List.length_drop] at h1
    rw [← h, attrs_reader_value.f, Int.toNat_natCast, spaces_at s0_0 p hs.1 (by omega), Option.bind_some]
    dsimp only
    rw [is_atA s0_0 _ 61 61 rfl, Option.bind_some]
    dsimp only
    have hd : (lb s0_0).drop (p + spU ((lb s0_0).drop p)) = ((lb s0_0).drop p).drop (spU ((lb s0_0).drop p)) := by rw [List.drop_drop]
    by_cases c : ((lb s0_0).drop (p + spU ((lb s0_0).drop p))).head?.any (· == 61) = true
    · have hlt := someA c
      have hv : ((lb s0_0).drop p).drop (spU ((lb s0_0).drop p)) = 61 :: (lb s0_0).drop (p + spU ((lb s0_0).drop p) + 1) := by
        rw [← hd, List.drop_eq_getElem_cons (by omega)]
        rw [List.drop_eq_getElem_cons (by omega), List.head?_cons, Option.any_some, beq_iff_eq] at c
        rw [c]
      have h2 := spU_le ((lb s0_0).drop (p + spU ((lb s0_0).drop p) + 1))
      rw [List.length_drop] at h2
      rw [if_pos c, w64 (by omega) (by omega), show ((p + spU ((lb s0_0).drop p) : Nat) : Int) + 1 = ((p + spU ((lb s0_0).drop p) + 1 : Nat) : Int) by omega, spaces_at s0_0 _ hs.1 (by omega), Option.bind_some, valU_eq _ _ hv, List.drop_drop]
      dsimp only
      generalize hP : p + spU ((lb s0_0).drop p) + 1 + spU ((lb s0_0).drop (p + spU ((lb s0_0).drop p) + 1)) = P
      have hPs : P ≤ s0_0.size := by omega
      have fin : ∀ q : Bool, ((q = true ∧ (((lb s0_0).drop P).head?.any (· == 34) = true ∨ ((lb s0_0).drop P).head?.any (· == 39) = true)) ∨ (q = false ∧ ((lb s0_0).drop P).head?.any (· == 34) = false ∧ ((lb s0_0).drop P).head?.any (· == 39) = false)) →
          attrs_reader_value.j0 1 q s0_0 (P : Int) = some (bs (vlU ((lb s0_0).drop P)).1, (vlU ((lb s0_0).drop P)).2.2, s0_0, ((p + (spU ((lb s0_0).drop p) + 1 + spU ((lb s0_0).drop (p + spU ((lb s0_0).drop p) + 1)) + (vlU ((lb s0_0).drop P)).2.1) : Nat) : Int)) := by
        intro q hq
        rw [attrs_reader_value.end 0 s0_0 P q hs.1 hPs hq]
        congr 5; omega
      rw [is_atA s0_0 P 34 34 rfl, Option.bind_some]
      dsimp only
      by_cases q1 : ((lb s0_0).drop P).head?.any (· == 34) = true
      · rw [if_pos q1, q1]; exact fin true (.inl ⟨rfl, .inl q1⟩)
      · have q1' : ((lb s0_0).drop P).head?.any (· == 34) = false := by simpa using q1
        rw [if_neg q1, is_atA s0_0 P 39 39 rfl, Option.bind_some]
        dsimp only
        refine fin _ ?_
        cases q2 : ((lb s0_0).drop P).head?.any (· == 39) with
        | true => exact .inl ⟨rfl, .inr rfl⟩
        | false => exact .inr ⟨rfl, q1', rfl⟩
    · have c' : (((lb s0_0).drop p).drop (spU ((lb s0_0).drop p))).head?.any (· == 61) = false := by rw [← hd]; simpa using c
      rw [if_neg c, valU_no _ c']; rfl
  · cases h
set_option maxRecDepth 100000 in
theorem attrs_reader_value_o.calls (g : Nat) (s0_0 : ByteArray) (s0_1 : Int) (r1 : ByteArray) (r2 : Bool) (r3 : ByteArray) (r4 : Int) (w0 w : World) (hI : IsS47 w0 w g s0_0 s0_1) (hB : Below w0.heap.size w0 w) (h : attrs_reader_value_o.f s0_0 s0_1 = some (r1, r2, r3, r4)) :
    Calls Tryd.prog 19 #[.pointer (some ⟨g, 0, none⟩)] w fun e w' => e = .returned (.tuple #[.string r1, .bool r2]) ∧ IsS47 w0 w' g r3 r4 ∧ Below w0.heap.size w0 w' ∧ KeepBut w w' g none := by
  obtain ⟨k, hk⟩ := attrs_reader_value_o.sound _ _ _ h
  exact attrs_reader_value.calls k g s0_0 s0_1 r1 r2 r3 r4 w0 w hI hB hk

-- NOT PRINTED: function 46 (abi_NoEscape)

/-! ### strings_Builder_copyCheck: function 34 -/
set_option maxHeartbeats 1000000 in
set_option maxRecDepth 100000 in
theorem Builder_copyCheck.used (b : Nat) (w : World) (h0 : w.cell? ⟨b, 0, none⟩ = some (.pointer (some ⟨b, 0, none⟩))) :
    Calls Tryd.prog 34 #[.pointer (some ⟨b, 0, none⟩)] w fun e w' => e = .returned (.tuple #[]) ∧ w' = w := by
  obtain ⟨j, hj⟩ : ∃ j, Tryd.prog.info? 58 = some j := Option.isSome_iff_exists.1 (by kernel_rfl)
  go_enter Tryd.func34, Tryd.ntmps34
  go_wp2
  rw [Lib.run_neq_ptr_same w _ Tryd.underlying56 hj]
  go_wp2
  go_end0
  exact ⟨rfl, rfl⟩
set_option maxHeartbeats 1000000 in
set_option maxRecDepth 100000 in
theorem Builder_copyCheck.fresh (b : Nat) (w : World) (h0 : w.cell? ⟨b, 0, none⟩ = some (.pointer none)) (hsh : w.shape? b = some (58, 2)) (hfz : w.frozen? ⟨b, 0, none⟩ = false) :
    Calls Tryd.prog 34 #[.pointer (some ⟨b, 0, none⟩)] w fun e w' => e = .returned (.tuple #[]) ∧ w' = w.setCell ⟨b, 0, none⟩ (.pointer (some ⟨b, 0, none⟩)) := by
  obtain ⟨j, hj, hjs⟩ := Option.map_eq_some_iff.1 Tryd.Builder_Extra_169.sizeBuilder
  go_enter Tryd.func34, Tryd.ntmps34
  go_wp2
  rw [Lib.run_to_unsafe w ⟨b, 0, none⟩ Tryd.underlying56 Tryd.underlying81 hj (by rw [hjs]; decide) hsh (Nat.zero_lt_succ 1)]
  simp only [Result.andThen]
  rw [Oper.upon_value]
  go_wp2
  rw [run_callFunc_extern Tryd.func46 (by kernel_rfl) (by kernel_rfl) (by kernel_rfl) (e := Extern.AbiNoEscape.same) (by kernel_rfl)]
  rw [Lib.run_noEscape]
  simp only [Result.andThen]
  rw [Oper.upon_value]
  go_wp2
  rw [Lib.run_from_unsafe w ⟨b, 0, none⟩ Tryd.underlying81 Tryd.underlying56 hj hsh Tryd.Builder_Extra_169.liesBuilder]
  simp only [Result.andThen]
  rw [Oper.upon_value]
  go_wp2
  go_end0
  exact ⟨rfl, rfl⟩
theorem Builder_copyCheck.any (B b : Nat) (l : List Value) (w : World) (h : Lib.IsBuilder 58 5 B b l w) :
    Calls Tryd.prog 34 #[.pointer (some ⟨b, 0, none⟩)] w fun e w' => e = .returned (.tuple #[]) ∧ Lib.BuilderAt 58 5 B b (.pointer (some ⟨b, 0, none⟩)) l w' ∧ Below B w w' := by
  rcases h with h | h
  · refine (Builder_copyCheck.fresh b w h.cell0 h.shape h.frozen0).mono ?_
    rintro e w' ⟨rfl, rfl⟩
    exact ⟨rfl, h.used _, (Below.refl B w).setCell (p := ⟨b, 0, none⟩) h.1 _⟩
  · refine (Builder_copyCheck.used b w h.cell0).mono ?_
    rintro e w' ⟨rfl, rfl⟩
    exact ⟨rfl, h, Below.refl B _⟩

/-! ### strings_Builder_WriteString: function 28 -/
set_option maxHeartbeats 1000000 in
set_option maxRecDepth 100000 in
theorem Builder_WriteString.calls (B b : Nat) (l : List Value) (s : ByteArray) (w : World) (h : Lib.IsBuilder 58 5 B b l w) (hlen : l.length + s.size ≤ 140737488355328) (hBw : B ≤ w.heap.size) :
    Calls Tryd.prog 28 #[.pointer (some ⟨b, 0, none⟩), .string s] w fun e w' => e = .returned (.tuple #[.int .i64 s.size, .nilIface]) ∧ Lib.BuilderAt 58 5 B b (.pointer (some ⟨b, 0, none⟩)) (l ++ Lib.strCells s) w' ∧ Below B w w' := by
  obtain ⟨i0, hi, hz0, hz1, hz2⟩ := info_parts Tryd.Builder_Extra_169.infoByte
  go_enter Tryd.func28, Tryd.ntmps28
  go_wp2_with (go_at_call 34; refine (Builder_copyCheck.any B b l _ h).mono ?_)
  rintro e w1 ⟨rfl, h1, hb1⟩
  obtain ⟨hB, v, hbk, hown, hne⟩ := h1
  have c0 : w1.cell? ⟨b, 0, none⟩ = some (.pointer (some ⟨b, 0, none⟩)) := by rw [Lib.cell_of_heap hbk]; rfl
  have c1 : w1.cell? ⟨b, 1, none⟩ = some v := by rw [Lib.cell_of_heap hbk]; rfl
  go_wp2_with (at_builtin; refine Lib.wpList_append_own_string _ rfl _ _ 22 9 rfl B 5 i0 Tryd.underlying22 Tryd.underlying9 hi hz0 hz1 hz2 _ _ _ rfl hown s rfl ?c3 ?c4 ?c5 ?_)
  case c3 => unfold maxLen; omega
  case c4 => omega
  case c5 => have := hb1.size; omega
  intro v' w2 hown' hgrow _
  have hlt : b < w1.heap.size := by
    rcases Nat.lt_or_ge b w1.heap.size with h' | h'
    · exact h'
    · simp [Array.getElem?_eq_none h'] at hbk
  have hb2 : w2.heap[b]? = some (.cells #[.pointer (some ⟨b, 0, none⟩), v] 58 (0, 0)) := by
    rw [hgrow.block b hlt (fun e => hne e.symm)]
    exact hbk
  have d0 : w2.cell? ⟨b, 0, none⟩ = some (.pointer (some ⟨b, 0, none⟩)) := by rw [Lib.cell_of_heap hb2]; rfl
  have d1 : w2.cell? ⟨b, 1, none⟩ = some v := by rw [Lib.cell_of_heap hb2]; rfl
  have f1 : w2.frozen? ⟨b, 1, none⟩ = false := Lib.frozen_of_heap hb2 1
  obtain ⟨ao, n', cap, rfl⟩ : ∃ ao n' cap, v' = .slice ao n' cap := by
    rcases hown'.2 with ⟨hv, _⟩ | ⟨g, cap, cur, hv, _⟩
    · exact ⟨_, _, _, hv⟩
    · exact ⟨_, _, _, hv⟩
  go_wp2
  go_ret2 
  refine ⟨rfl, ?_, ?_⟩
  · exact Lib.BuilderAt.put (T := 58) (e := 5) hB hb2 (bs' := l ++ Lib.strCells s) (by simpa [Lib.strCells_length] using hown') (by decide)
  · exact (hb1.grown hgrow (by have := hb1.size; omega) (fun k hk => (hown.lt k hk).1)).setCell (p := ⟨b, 1, none⟩) hB _
theorem builder_below {T e : TypeId} {B b : Nat} {l : List Value} {w w' : World} (h : Lib.IsBuilder T e B b l w) (hb : Below w.heap.size w w') : Lib.IsBuilder T e B b l w' := by
  have key : ∀ p, Lib.BuilderAt T e B b p l w → Lib.BuilderAt T e B b p l w' := fun p hp => by
    have hlt := hp.lt
    obtain ⟨hB, v, hk, hown, hne⟩ := hp
    exact ⟨hB, v, (hb.block b hlt).trans hk, pw_own_below hown hb, hne⟩
  rcases h with h | h
  · exact .inl (key _ h)
  · exact .inr (key _ h)

-- NOT PRINTED: function 29 (strings_Builder_String)

/-! ### sign_Digit: function 47 -/
def sign_Digit.f (a0 : Int) : Option (Bool) := (sign_within.f a0 48 57).bind fun t132 => (some t132)
set_option maxHeartbeats 8000000 in
set_option maxRecDepth 100000 in
theorem sign_Digit.calls (a0 : Int) (r : Bool) (w : World) (h : sign_Digit.f a0 = some r) :
    Calls Tryd.prog 47 #[.int .u8 a0] w fun e w' => e = .returned (.bool r) ∧ Drawn0 w w' := by
  have H : ((sign_within.f a0 48 57).bind fun t132 => (some t132)) = some r := h
  clear h
  replace H := Option.bind_eq_some_iff.mp H
  obtain ⟨t132, A20, H⟩ := H
  replace H : (some t132) = some r := H
  have A2 := Aside0.mk A20
  clear A20
  obtain rfl := Option.some.inj H
  go_enter Tryd.func47, Tryd.ntmps47
  go_wp2_with (first | ((with_reducible refine gate_callee (f := 24) rfl ?_); refine goesL_ (some 4) rfl rfl Tryd.func24 (by kernel_rfl) rfl #[.int .u8 a0, .int .u8 48, .int .u8 57] rfl (by (try simp only [List.map_toArray, List.map_cons, List.map_nil]); first | done | rfl | (simp only [List.length_drop, List.length_take]; rfl)) ?_; (with_reducible refine (sign_within.calls a0 48 57 t132 _ A2.out).mono ?_); rintro e w' ⟨rfl, ⟨nd, rfl⟩⟩; refine ⟨_, rfl, ?_⟩))
  all_goals (first | (go_ret; exact ⟨by first | rfl | (simp; done) | (simp [*]; done), by repeat (first | exact Drawn0.refl _ | apply Drawn0.step)⟩) | (exfalso; omega) | (rename_i h_; exfalso; simp [*] at h_; done))

/-! sign_Digit, told over -/
def sign_Digit_o.f (a0 : Int) : Option Bool := some (digitI a0)
theorem sign_Digit_o.sound (a0 : Int) (r : Bool) (h : sign_Digit_o.f a0 = some r) : sign_Digit.f a0 = some r := by
  rw [← h]; unfold sign_Digit.f sign_Digit_o.f digitI sign_within.f
  by_cases h1 : a0 ≥ 48
  · rw [if_pos h1]; simp only [Option.bind_some]; congr 1; simp; omega
  · rw [if_neg h1]; simp only [Option.bind_some]; congr 1; simp; omega
set_option maxRecDepth 100000 in
theorem sign_Digit_o.calls (a0 : Int) (r : Bool) (w : World) (h : sign_Digit_o.f a0 = some r) :
    Calls Tryd.prog 47 #[.int .u8 a0] w fun e w' => e = .returned (.bool r) ∧ Drawn0 w w' := by
  have hk := sign_Digit_o.sound _ _ h
  exact sign_Digit.calls a0 r w hk

end
end Go.Proofs.YtmokjaddbmcopaaDoor.P
