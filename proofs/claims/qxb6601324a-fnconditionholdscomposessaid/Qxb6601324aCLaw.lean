/-
  FnConditionHoldsComposes: the walk of the law.
-/
import Derived.Test.Qxb6601324aCApp
namespace Go.Proofs.Qxb6601324a
open Go.RowKit
set_option linter.unusedSimpArgs false
set_option linter.unusedVariables false

theorem trms_nil {w : World} {a : Option Addr} {n : Nat} {ps : Nat → Trm} (h : IsTrms w a n ps) (e : a = none) : n = 0 := by
  by_cases h0 : n = 0
  · exact h0
  · obtain ⟨b, off, e', _⟩ := h.at' 0 (Nat.pos_of_ne_zero h0)
    rw [e] at e'
    cases e'
/-- All that is read behind the lists' making. -/
structure Q5 (w : World) (a : Option Addr) (n : Nat) (ps : Nat → Trm) (a2 : Option Addr) (n2 : Nat) (ps2 : Nat → Trm) (gA gB gC : Nat) (W : World) : Prop where
  bel : Below w.heap.size w W
  ta : IsTrms W a n ps
  tb : IsTrms W a2 n2 ps2
  tA : IsTrms W (some ⟨gA, 0, none⟩) (n + 1) (snoc n ps 9)
  tB : IsTrms W (some ⟨gB, 0, none⟩) (n + n2 + 1) (snoc (n + n2) (app n ps ps2) 7)
  tC : IsTrms W (some ⟨gC, 0, none⟩) (n + n2 + 1) (snoc (n + n2) (app n ps ps2) 8)
theorem Q5.below {w : World} {a : Option Addr} {n : Nat} {ps : Nat → Trm} {a2 : Option Addr} {n2 : Nat} {ps2 : Nat → Trm} {gA gB gC : Nat} {W W' : World} (q : Q5 w a n ps a2 n2 ps2 gA gB gC W) (hb : Below W.heap.size W W') : Q5 w a n ps a2 n2 ps2 gA gB gC W' :=
  ⟨q.bel.trans (hb.mono q.bel.size), q.ta.below hb, q.tb.below hb, q.tA.below hb, q.tB.below hb, q.tC.below hb⟩
def RetTrueC (w : World) (e : Ending) (w' : World) : Prop := e = .returned (.bool true) ∧ Below w.heap.size w w'

set_option maxRecDepth 10000 in
set_option maxHeartbeats 8000000 in
theorem law4 (a : Option Addr) (n c : Nat) (ps : Nat → Trm) (a2 : Option Addr) (n2 c2 : Nat) (ps2 : Nat → Trm) (a1 : Option Addr) (n1 c1 : Nat) (qs : Nat → Att) (w : World) (h : IsTrms w a n ps) (h2 : IsTrms w a2 n2 ps2) (h1 : IsAtts w a1 n1 qs) (hca : a = none → c = 0) (hca2 : a2 = none → c2 = 0) :
    Calls Try.prog 4 #[.slice a n c, .slice a2 n2 c2, .slice a1 n1 c1] w (RetTrueC w) := by
  have hl := h.le
  have hl2 := h2.le
  have hl1 := h1.le
  have HZ := zz14 a n c ps a2 n2 c2 ps2 a1 n1 c1 qs w h h2 h1
  have hna : a = none → n = 0 ∧ c = 0 := fun e => ⟨trms_nil h e, hca e⟩
  have hna2 : a2 = none → n2 = 0 ∧ c2 = 0 := fun e => ⟨trms_nil h2 e, hca2 e⟩
  obtain ⟨i5, hi5, hz5, hs5, hy5⟩ := info_parts info35
  by_cases l1 : 256 < n
  · go_enter Try.func4, Try.ntmps4
    go_wp2_with fail
    refine HZ.mono ?_
    rintro e w' ⟨⟨b, rfl⟩, rfl⟩
    cases b <;> (go_wp2; go_ret; exact ⟨rfl, Below.refl _ _⟩)
  by_cases l2 : 256 < n2
  · go_enter Try.func4, Try.ntmps4
    go_wp2_with fail
    refine HZ.mono ?_
    rintro e w' ⟨⟨b, rfl⟩, rfl⟩
    cases b <;> (go_wp2; go_ret; exact ⟨rfl, Below.refl _ _⟩)
  by_cases l3 : 4096 < n1
  · go_enter Try.func4, Try.ntmps4
    go_wp2_with fail
    refine HZ.mono ?_
    rintro e w' ⟨⟨b, rfl⟩, rfl⟩
    cases b <;> (go_wp2; go_ret; exact ⟨rfl, Below.refl _ _⟩)
  have HF := fit15 a n c ps a2 n2 c2 ps2 a1 n1 c1 qs w h h2 h1 (by omega) (by omega) (by omega)
  go_enter Try.func4, Try.ntmps4
  go_wp2_with fail
  refine HZ.mono ?_
  rintro e w' ⟨⟨b, rfl⟩, rfl⟩
  cases b with
  | false =>
    go_wp2
    go_ret
    exact ⟨rfl, Below.refl _ _⟩
  | true =>
  go_wp2_with fail
  refine HF.mono ?_
  rintro e w' ⟨⟨b, rfl, hb⟩, rfl⟩
  cases b with
  | false =>
    go_wp2
    go_ret
    exact ⟨rfl, Below.refl _ _⟩
  | true =>
  obtain ⟨hsum, hd, hd2⟩ := hb rfl
  have HD : Hid (dep ps n = some 1) := hd
  have HD2 : Hid (dep ps2 n2 = some 1) := hd2
  clear HF HZ hd hd2 hb hca hca2
  obtain ⟨w, rfl⟩ : ∃ v : World, v = w' := ⟨_, rfl⟩
  have HNA : Hid (a = none → n = 0 ∧ c = 0) := hna
  have HNA2 : Hid (a2 = none → n2 = 0 ∧ c2 = 0) := hna2
  clear hna hna2
  go_wp2_with (first
    | (at_make; refine wpList_make_own _ rfl _ (.tmp 41) 22 rfl w.heap.size 35 i5 _ 4 Try.underlying22 hi5 hz5 hs5 .i64 .i64 _ (n + 1) rfl rfl (by omega) (by rw [hy5]; omega) (by unfold maxLen; omega) (Nat.le_refl _) ?_; intro w1 hown hgrow; have A0 := Lst.made hown hgrow; clear hown hgrow)
    | (at_builtin; refine wpList_append_fits_any _ rfl (.tmp 43) (.tmp 44) 22 rfl w.heap.size 35 i5 4 Try.underlying22 hi5 hs5 w.heap.size 0 (n + 1) ([]) rfl A0.own a n c (flatT ps n) rfl (flatT_length ps n) HNA.out (trms_cells (h.below A0.bel)) (flatT_one ps n) (by omega) ?_; intro w2 hown hgrow; have A1 := A0.app hown hgrow; simp only [Nat.zero_add, List.nil_append] at A1; clear hown hgrow)
    | (at_builtin; refine wpList_append_fits _ rfl (.tmp 46) (.tmp 48) 22 rfl w.heap.size 35 i5 4 Try.underlying22 hi5 hs5 w.heap.size (n) (n + 1) (flatT ps n) rfl (A1.box _).own ⟨w2.heap.size, 0, none⟩ 1 1 (tOp 9).cells rfl rfl (by exact fun j u hj => cells_new1 _ _ _ j u hj) (by intro u hu; simp [Trm.cells, tOp] at hu; rcases hu with rfl | rfl | rfl | rfl <;> rfl) (by omega) ?_; intro w3 hown hgrow; have A2 := (A1.box _).app hown hgrow; clear hown hgrow)
    | (at_make; refine wpList_make_own _ rfl _ (.tmp 55) 22 rfl w3.heap.size 35 i5 _ 4 Try.underlying22 hi5 hz5 hs5 .i64 .i64 _ (n + n2 + 1) rfl rfl (by omega) (by rw [hy5]; omega) (by unfold maxLen; omega) (Nat.le_refl _) ?_; intro w4 hown hgrow; have B0 := Lst.made hown hgrow; clear hown hgrow)
    | (at_builtin; refine wpList_append_fits_any _ rfl (.tmp 57) (.tmp 58) 22 rfl w3.heap.size 35 i5 4 Try.underlying22 hi5 hs5 w3.heap.size 0 (n + n2 + 1) ([]) rfl B0.own a n c (flatT ps n) rfl (flatT_length ps n) HNA.out (trms_cells ((h.below A2.bel).below B0.bel)) (flatT_one ps n) (by omega) ?_; intro w5 hown hgrow; have B1 := B0.app hown hgrow; simp only [Nat.zero_add, List.nil_append] at B1; clear hown hgrow)
    | (at_builtin; refine wpList_append_fits_any _ rfl (.tmp 60) (.tmp 61) 22 rfl w3.heap.size 35 i5 4 Try.underlying22 hi5 hs5 w3.heap.size n (n + n2 + 1) (flatT ps n) rfl B1.own a2 n2 c2 (flatT ps2 n2) rfl (flatT_length ps2 n2) HNA2.out (trms_cells ((h2.below A2.bel).below B1.bel)) (flatT_one ps2 n2) (by omega) ?_; intro w6 hown hgrow; have B2 := B1.app hown hgrow; clear hown hgrow)
    | (at_builtin; refine wpList_append_fits _ rfl (.tmp 63) (.tmp 65) 22 rfl w3.heap.size 35 i5 4 Try.underlying22 hi5 hs5 w3.heap.size (n + n2) (n + n2 + 1) (flatT ps n ++ flatT ps2 n2) rfl (B2.box _).own ⟨w6.heap.size, 0, none⟩ 1 1 (tOp 7).cells rfl rfl (by exact fun j u hj => cells_new1 _ _ _ j u hj) (by intro u hu; simp [Trm.cells, tOp] at hu; rcases hu with rfl | rfl | rfl | rfl <;> rfl) (by omega) ?_; intro w7 hown hgrow; have B3 := (B2.box _).app hown hgrow; clear hown hgrow)
    | (at_make; refine wpList_make_own _ rfl _ (.tmp 72) 22 rfl w7.heap.size 35 i5 _ 4 Try.underlying22 hi5 hz5 hs5 .i64 .i64 _ (n + n2 + 1) rfl rfl (by omega) (by rw [hy5]; omega) (by unfold maxLen; omega) (Nat.le_refl _) ?_; intro w8 hown hgrow; have C0 := Lst.made hown hgrow; clear hown hgrow)
    | (at_builtin; refine wpList_append_fits_any _ rfl (.tmp 74) (.tmp 75) 22 rfl w7.heap.size 35 i5 4 Try.underlying22 hi5 hs5 w7.heap.size 0 (n + n2 + 1) ([]) rfl C0.own a n c (flatT ps n) rfl (flatT_length ps n) HNA.out (trms_cells (((h.below A2.bel).below B3.bel).below C0.bel)) (flatT_one ps n) (by omega) ?_; intro w9 hown hgrow; have C1 := C0.app hown hgrow; simp only [Nat.zero_add, List.nil_append] at C1; clear hown hgrow)
    | (at_builtin; refine wpList_append_fits_any _ rfl (.tmp 77) (.tmp 78) 22 rfl w7.heap.size 35 i5 4 Try.underlying22 hi5 hs5 w7.heap.size n (n + n2 + 1) (flatT ps n) rfl C1.own a2 n2 c2 (flatT ps2 n2) rfl (flatT_length ps2 n2) HNA2.out (trms_cells (((h2.below A2.bel).below B3.bel).below C1.bel)) (flatT_one ps2 n2) (by omega) ?_; intro w10 hown hgrow; have C2 := C1.app hown hgrow; clear hown hgrow)
    | (at_builtin; refine wpList_append_fits _ rfl (.tmp 80) (.tmp 82) 22 rfl w7.heap.size 35 i5 4 Try.underlying22 hi5 hs5 w7.heap.size (n + n2) (n + n2 + 1) (flatT ps n ++ flatT ps2 n2) rfl (C2.box _).own ⟨w10.heap.size, 0, none⟩ 1 1 (tOp 8).cells rfl rfl (by exact fun j u hj => cells_new1 _ _ _ j u hj) (by intro u hu; simp [Trm.cells, tOp] at hu; rcases hu with rfl | rfl | rfl | rfl <;> rfl) (by omega) ?_; intro w11 hown hgrow; have C3 := (C2.box _).app hown hgrow; clear hown hgrow))
  have QQ : Q5 w a n ps a2 n2 ps2 w.heap.size w3.heap.size w7.heap.size w11 := by
    have b1 := A2.bel
    have b2 := b1.trans (B3.bel.mono b1.size)
    have b3 := b2.trans (C3.bel.mono b2.size)
    exact ⟨b3, h.below b3, h2.below b3, ((trms_of_own (by rw [flatT_snoc]; exact A2.own)).below B3.bel).below C3.bel, (trms_of_own (by rw [flatT_snoc, flatT_app]; exact B3.own)).below C3.bel, trms_of_own (by rw [flatT_snoc, flatT_app]; exact C3.own)⟩
  have h1' := h1.below QQ.bel
  clear A0 A1 A2 B0 B1 B2 B3 C0 C1 C2 C3 h h2 h1 hi5 hz5 hs5 hy5 HNA HNA2
  refine (mka12 a1 n1 c1 qs w11 h1').mono ?_
  rintro e w12 ⟨m, rfl, hlk, hb12⟩
  have Q12 := QQ.below hb12
  clear QQ h1' hb12
  generalize (fun s => lastA qs s n1) = G at hlk
  have HM := mkc11 a n c ps w12 Q12.ta (by omega)
  go_wp2_with fail
  refine HM.mono ?_
  rintro e w13 ⟨g12, cap12, rfl, hT, hb⟩
  have Q13 := Q12.below hb
  have hlk13 := hlk.below hb
  have HH := hold10 (some ⟨g12, 0, none⟩) n cap12 ps m G 1 w13 hT (by omega) HD.out hlk13
  go_wp2_with fail
  refine HH.mono ?_
  rintro e w14 ⟨rfl, hb2⟩
  have Q14 := Q13.below hb2
  have hlk14 := hlk13.below hb2
  clear HM HH hT hb hb2 Q12 Q13 hlk13 hlk
  have HM := mkc11 a2 n2 c2 ps2 w14 Q14.tb (by omega)
  go_wp2_with fail
  refine HM.mono ?_
  rintro e w15 ⟨g14, cap14, rfl, hT, hb⟩
  have Q15 := Q14.below hb
  have hlk15 := hlk14.below hb
  have HH := hold10 (some ⟨g14, 0, none⟩) n2 cap14 ps2 m G 1 w15 hT (by omega) HD2.out hlk15
  go_wp2_with fail
  refine HH.mono ?_
  rintro e w16 ⟨rfl, hb2⟩
  have Q16 := Q15.below hb2
  have hlk16 := hlk15.below hb2
  clear HM HH hT hb hb2 Q14 Q15 hlk15 hlk14
  have HM := mkc11 (some ⟨w.heap.size, 0, none⟩) (n + 1) (n + 1) (snoc n ps 9) w16 Q16.tA (by omega)
  go_wp2_with fail
  refine HM.mono ?_
  rintro e w17 ⟨g16, cap16, rfl, hT, hb⟩
  have Q17 := Q16.below hb
  have hlk17 := hlk16.below hb
  have HH := hold10 (some ⟨g16, 0, none⟩) (n + 1) cap16 (snoc n ps 9) m G 1 w17 hT (by omega) (dep_not HD.out) hlk17
  rw [hold_not G HD.out] at HH
  go_wp2_with fail
  refine HH.mono ?_
  rintro e w18 ⟨rfl, hb2⟩
  have Q18 := Q17.below hb2
  have hlk18 := hlk17.below hb2
  clear HM HH hT hb hb2 Q16 Q17 hlk17 hlk16
  have HM := mkc11 (some ⟨w3.heap.size, 0, none⟩) (n + n2 + 1) (n + n2 + 1) (snoc (n + n2) (app n ps ps2) 7) w18 Q18.tB (by omega)
  go_wp2_with fail
  refine HM.mono ?_
  rintro e w19 ⟨g18, cap18, rfl, hT, hb⟩
  have Q19 := Q18.below hb
  have hlk19 := hlk18.below hb
  have HH := hold10 (some ⟨g18, 0, none⟩) (n + n2 + 1) cap18 (snoc (n + n2) (app n ps ps2) 7) m G 1 w19 hT (by omega) (dep_two HD.out HD2.out 7 (by decide)) hlk19
  rw [hold_and G HD.out HD2.out] at HH
  go_wp2_with fail
  refine HH.mono ?_
  rintro e w20 ⟨rfl, hb2⟩
  have Q20 := Q19.below hb2
  have hlk20 := hlk19.below hb2
  clear HM HH hT hb hb2 Q18 Q19 hlk19 hlk18
  have HM := mkc11 (some ⟨w7.heap.size, 0, none⟩) (n + n2 + 1) (n + n2 + 1) (snoc (n + n2) (app n ps ps2) 8) w20 Q20.tC (by omega)
  go_wp2_with fail
  refine HM.mono ?_
  rintro e w21 ⟨g20, cap20, rfl, hT, hb⟩
  have Q21 := Q20.below hb
  have hlk21 := hlk20.below hb
  have HH := hold10 (some ⟨g20, 0, none⟩) (n + n2 + 1) cap20 (snoc (n + n2) (app n ps ps2) 8) m G 1 w21 hT (by omega) (dep_two HD.out HD2.out 8 (by decide)) hlk21
  rw [hold_or G HD.out HD2.out] at HH
  go_wp2_with fail
  refine HH.mono ?_
  rintro e w22 ⟨rfl, hb2⟩
  have Q22 := Q21.below hb2
  have hlk22 := hlk21.below hb2
  clear HM HH hT hb hb2 Q20 Q21 hlk21 hlk20
  generalize hold G ps n = x
  generalize hold G ps2 n2 = y
  cases x <;> cases y <;> (go_wp2; go_ret; exact ⟨rfl, Q22.bel⟩)

end Go.Proofs.Qxb6601324a
