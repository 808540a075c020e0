/-
  toTally: the loops.
-/
import Derived.Test.Qxb6601324aMakers
namespace Go.Proofs.Qxb6601324a
open Go.RowKit
set_option linter.unusedSimpArgs false
set_option linter.unusedVariables false

structure VInv (w : World) (cs : Array Value) (vn : Nat) (ps : Nat → Par) (k : Nat) (wr : World) : Prop where
  bel : Below w.heap.size w wr
  bx : Bx wr w.heap.size 40 cs
  rb : Bx wr (w.heap.size + 1) 46 tzero
  own : wr.ownsRow (w.heap.size + 2) 78 7 (.slice (some ⟨w.heap.size + 2, 0, none⟩) k vn) k (flatP ps k)
theorem grown_below {B : Nat} {W w' : World} {row : Option Nat} (hg : W.grownBy w' row) (hB : B ≤ W.heap.size) (hr : ∀ k, row = some k → B ≤ k) : Below B W w' := (Below.refl B W).grown hg hB hr
theorem VInv.start {w w1 : World} {cs : Array Value} {vn : Nat} (ps : Nat → Par) (hown : w1.ownsRow (w.heap.size + 2) 78 7 (.slice (some ⟨((w.alloc (.cells cs 40)).alloc (.cells tzero 46)).heap.size, 0, none⟩) 0 vn) 0 []) (hg : ((w.alloc (.cells cs 40)).alloc (.cells tzero 46)).grownBy w1 none) : VInv w cs vn ps 0 w1 := by
  have hb : Below (w.heap.size + 2) ((w.alloc (.cells cs 40)).alloc (.cells tzero 46)) w1 := grown_below hg (by simp) (by simp)
  have h2 : Bx ((w.alloc (.cells cs 40)).alloc (.cells tzero 46)) (w.heap.size + 1) 46 tzero := by have h := Bx.new (w.alloc (.cells cs 40)) 46 tzero; simpa using h
  exact ⟨(below_box2 _ _ _).trans (hb.mono (by omega)), ((Bx.new _ _ _).alloc _).below hb (by omega), h2.below hb (by omega), by rw [show ((w.alloc (.cells cs 40)).alloc (.cells tzero 46)).heap.size = w.heap.size + 2 by simp] at hown; exact hown⟩
theorem VInv.step {w wr w' : World} {cs : Array Value} {vn : Nat} {ps : Nat → Par} {k : Nat} (h : VInv w cs vn ps k wr) {A B C : Obj} (hg : (((wr.alloc A).alloc B).alloc C).grownBy w' (some (w.heap.size + 2)))
    (hown : w'.ownsRow (w.heap.size + 2) 78 7 (.slice (some ⟨w.heap.size + 2, 0, none⟩) (k + 1) vn) (k + 1) (flatP ps k ++ [.string (ps k).nm, .int .u8 (ps k).fn, .string (ps k).attr, .int .u64 (ps k).ver, .int .u64 (ps k).n, .int .i64 (ps k).hi, .int .u64 (ps k).lo])) : VInv w cs vn ps (k + 1) w' := by
  have hsz : w.heap.size + 1 < wr.heap.size := h.rb.lt
  have hb : Below (w.heap.size + 2) wr w' := ((below_box3 wr A B C).mono (by omega)).trans (grown_below hg (by simp; omega) (by intro k hk; simp at hk; omega))
  exact ⟨h.bel.trans (hb.mono (by omega)), h.bx.below hb (by omega), h.rb.below hb (by omega), by rw [flatP_succ]; exact hown⟩
/-- What stands behind the first loop. -/
structure VDone (w : World) (cs : Array Value) (ps : Nat → Par) (vn : Nat) (va' : Option Addr) (w1 : World) : Prop where
  bel : Below w.heap.size w w1
  bx : Bx w1 w.heap.size 40 cs
  rb : Bx w1 (w.heap.size + 1) 46 tzero
  pars : IsPars w1 va' vn ps
theorem VInv.done {w wr : World} {cs : Array Value} {vn : Nat} {ps : Nat → Par} (h : VInv w cs vn ps vn wr) : VDone w cs ps vn (some ⟨w.heap.size + 2, 0, none⟩) wr := ⟨h.bel, h.bx, h.rb, pars_of_own h.own⟩
theorem VDone.nil (w : World) (cs : Array Value) (ps : Nat → Par) : VDone w cs ps 0 none ((w.alloc (.cells cs 40)).alloc (.cells tzero 46)) :=
  ⟨below_box2 _ _ _, (Bx.new _ _ _).alloc _, by have h := Bx.new (w.alloc (.cells cs 40)) 46 tzero; simpa using h, by omega, fun k hk => by omega⟩
theorem VDone.below {w w1 w2 : World} {cs : Array Value} {ps : Nat → Par} {vn : Nat} {va' : Option Addr} (h : VDone w cs ps vn va' w1) (hb : Below w1.heap.size w1 w2) : VDone w cs ps vn va' w2 :=
  ⟨h.bel.trans (hb.mono h.bel.size), h.bx.below hb h.bx.lt, h.rb.below hb h.rb.lt, h.pars.below hb⟩

structure BInv (w1 : World) (bn : Nat) (bs : Nat → Bnd) (k : Nat) (wr : World) : Prop where
  bel : Below w1.heap.size w1 wr
  own : wr.ownsRow w1.heap.size 81 6 (.slice (some ⟨w1.heap.size, 0, none⟩) k bn) k (flatB bs k)
theorem BInv.start {w1 w2 : World} {bn : Nat} (bs : Nat → Bnd) (hown : w2.ownsRow w1.heap.size 81 6 (.slice (some ⟨w1.heap.size, 0, none⟩) 0 bn) 0 []) (hg : w1.grownBy w2 none) : BInv w1 bn bs 0 w2 :=
  ⟨grown_below hg (Nat.le_refl _) (by simp), hown⟩
theorem BInv.lt {w1 wr : World} {bn : Nat} {bs : Nat → Bnd} {k : Nat} (h : BInv w1 bn bs k wr) : w1.heap.size < wr.heap.size := by
  obtain ⟨_, h | ⟨g, cap, cur, hv, _, hh, _⟩⟩ := h.own
  · simp at h
  · simp only [Value.slice.injEq, Option.some.injEq, Addr.mk.injEq, true_and, and_true] at hv
    obtain ⟨rfl, _⟩ := hv
    exact Bx.lt (t := 81) (cs := cur) hh
theorem BInv.step {w1 wr w' : World} {bn : Nat} {bs : Nat → Bnd} {k : Nat} (h : BInv w1 bn bs k wr) {A B C : Obj} (hg : (((wr.alloc A).alloc B).alloc C).grownBy w' (some w1.heap.size))
    (hown : w'.ownsRow w1.heap.size 81 6 (.slice (some ⟨w1.heap.size, 0, none⟩) (k + 1) bn) (k + 1) (flatB bs k ++ [.string (bs k).attr, .int .u64 (bs k).n, .int .i64 (bs k).lh, .int .u64 (bs k).ll, .int .i64 (bs k).hh, .int .u64 (bs k).hl])) : BInv w1 bn bs (k + 1) w' := by
  have hsz := h.lt
  have hb : Below w1.heap.size wr w' := ((below_box3 wr A B C).mono (by omega)).trans (grown_below hg (by simp; omega) (by intro k hk; simp at hk; omega))
  exact ⟨h.bel.trans hb, by rw [flatB_succ]; exact hown⟩

theorem IsPars.setRow {w : World} {g r n : Nat} {ps : Nat → Par} {cs : Array Value} (h : IsPars w (some ⟨g, 0, none⟩) n ps) (hne : g ≠ r) : IsPars (w.setRow r cs) (some ⟨g, 0, none⟩) n ps := by
  refine ⟨h.le, fun k hk => ?_⟩
  obtain ⟨b, off, e, hb, hp⟩ := h.at' k hk
  simp only [Option.some.injEq, Addr.mk.injEq, and_true] at e
  obtain ⟨rfl, rfl⟩ := e
  refine ⟨_, _, rfl, by simpa using hb, ?_⟩
  obtain ⟨c0, c1, c2, c3, c4, c5, c6⟩ := hp
  constructor <;> (rw [cell_setRow_other _ _ _ _ hne]; assumption)
theorem IsBnds.setRow {w : World} {g r n : Nat} {ps : Nat → Bnd} {cs : Array Value} (h : IsBnds w (some ⟨g, 0, none⟩) n ps) (hne : g ≠ r) : IsBnds (w.setRow r cs) (some ⟨g, 0, none⟩) n ps := by
  refine ⟨h.le, fun k hk => ?_⟩
  obtain ⟨b, off, e, hb, hp⟩ := h.at' k hk
  simp only [Option.some.injEq, Addr.mk.injEq, and_true] at e
  obtain ⟨rfl, rfl⟩ := e
  refine ⟨_, _, rfl, by simpa using hb, ?_⟩
  obtain ⟨c0, c1, c2, c3, c4, c5⟩ := hp
  constructor <;> (rw [cell_setRow_other _ _ _ _ hne]; assumption)
theorem IsPars.zero (w : World) (a : Option Addr) (ps : Nat → Par) : IsPars w a 0 ps := ⟨by omega, fun k hk => by omega⟩
theorem IsBnds.zero (w : World) (a : Option Addr) (ps : Nat → Bnd) : IsBnds w a 0 ps := ⟨by omega, fun k hk => by omega⟩

theorem info78 : (Try.prog.info? 78).map (fun i => (i.zero, i.size, i.bytes)) = some (some (.agg #[.string ⟨#[]⟩, .int .u8 0, .string ⟨#[]⟩, .int .u64 0, .int .u64 0, .int .i64 0, .int .u64 0]), 7, 72) := by kernel_rfl
theorem info81 : (Try.prog.info? 81).map (fun i => (i.zero, i.size, i.bytes)) = some (some (.agg #[.string ⟨#[]⟩, .int .u64 0, .int .i64 0, .int .u64 0, .int .i64 0, .int .u64 0]), 6, 56) := by kernel_rfl
theorem cells_new3 (wr : World) (A B : Obj) (l : List Value) (t : TypeId) (j : Nat) (u : Value) (hj : l[j]? = some u) : (((wr.alloc A).alloc B).alloc (.cells l.toArray t)).cell? ((⟨wr.heap.size + 2, 0, none⟩ : Addr).add j) = some u := by
  have hadd : (⟨wr.heap.size + 2, 0, none⟩ : Addr).add j = ⟨wr.heap.size + 2, j, none⟩ := by unfold Addr.add; split <;> simp_all
  have h : Bx (((wr.alloc A).alloc B).alloc (.cells l.toArray t)) (wr.heap.size + 2) t l.toArray := by have h := Bx.new ((wr.alloc A).alloc B) t l.toArray; simpa using h
  rw [hadd, cell_of_row _ _ _ _ _ _ h]
  simpa using hj

set_option maxRecDepth 10000 in
set_option maxHeartbeats 4000000 in
theorem tot18_ss (m : Int) (vaa : Addr) (vn vc : Nat) (baa : Addr) (bn bc : Nat) (T : Tops) (cut : Bool) (ps : Nat → Par) (bs : Nat → Bnd) (w : World) (hv : IsPars w (some vaa) vn ps) (hvl : vn ≤ 4096) (hb : IsBnds w (some baa) bn bs) (hbl : bn ≤ 4096) :
    Calls Try.prog 18 #[.agg #[.int .u64 m, .slice (some vaa) vn vc, .slice (some baa) bn bc, .int .u64 T.t0, .int .u64 T.t1, .int .u64 T.t2, .int .u64 T.t3, .int .u64 T.t4, .int .u64 T.t5, .int .u64 T.t6, .int .u64 T.t7, .int .u64 T.t8, .int .u64 T.t9, .int .u64 T.t10, .int .u64 T.t11, .int .u64 T.t12, .int .u64 T.t13, .int .u64 T.t14, .int .u64 T.t15, .bool cut]] w fun e w' => ∃ cs', e = .returned (.agg cs') ∧ TalIn w' ⟨m, vn, ps, bn, bs, T, cut⟩ cs' ∧ Below w.heap.size w w' := by
  obtain ⟨i7, hi7, hz7, hs7, hy7⟩ := info_parts info78
  obtain ⟨i8, hi8, hz8, hs8, hy8⟩ := info_parts info81
  have hn1 := fun (w : World) (a : Option Addr) (n c : Nat) => run_neq_slice_nil_any (P := Try.prog) w 36 68 a n c 0 0 Try.underlying36
  have hn2 := fun (w : World) (a : Option Addr) (n c : Nat) => run_neq_slice_nil_any (P := Try.prog) w 37 70 a n c 0 0 Try.underlying37
  go_enter Try.func18, Try.ntmps18
  go_wp2_with (at_make; go_loud (refine wpList_make_own _ rfl _ (.tmp 14) 42 rfl (w.heap.size + 2) 78 i7 _ 7 Try.underlying42 hi7 hz7 hs7 .i64 .i64 _ vn rfl rfl rfl (by rw [hy7]; omega) (by unfold maxLen; omega) (by simp) ?_; intro w1 hown1 hgrow1; have V0 := VInv.start (cs := #[.int .u64 m, .slice (some vaa) vn vc, .slice (some baa) bn bc, .int .u64 T.t0, .int .u64 T.t1, .int .u64 T.t2, .int .u64 T.t3, .int .u64 T.t4, .int .u64 T.t5, .int .u64 T.t6, .int .u64 T.t7, .int .u64 T.t8, .int .u64 T.t9, .int .u64 T.t10, .int .u64 T.t11, .int .u64 T.t12, .int .u64 T.t13, .int .u64 T.t14, .int .u64 T.t15, .bool cut]) ps hown1 hgrow1; clear hown1 hgrow1; have cf1 : w1.cell? ⟨w.heap.size, 1, none⟩ = some (.slice (some vaa) vn vc) := cell_of_row _ _ 1 _ _ _ V0.bx))
  clear cf1
  go_loopw [3, 19] (fun v i wr => ∃ k : Nat, k ≤ vn ∧ i = .int .i64 k ∧ v = .slice (some ⟨w.heap.size + 2, 0, none⟩) k vn ∧ VInv w #[.int .u64 m, .slice (some vaa) vn vc, .slice (some baa) bn bc, .int .u64 T.t0, .int .u64 T.t1, .int .u64 T.t2, .int .u64 T.t3, .int .u64 T.t4, .int .u64 T.t5, .int .u64 T.t6, .int .u64 T.t7, .int .u64 T.t8, .int .u64 T.t9, .int .u64 T.t10, .int .u64 T.t11, .int .u64 T.t12, .int .u64 T.t13, .int .u64 T.t14, .int .u64 T.t15, .bool cut] vn ps k wr) (fun _ i _ => vn - (intOf i).toNat)
  case atStart => exact ⟨0, Nat.zero_le _, rfl, rfl, V0⟩
  case round =>
    clear V0
    obtain ⟨k, hk, rfl, rfl, V⟩ := hrel
    by_cases hlt : k < vn
    · obtain ⟨b, off, e, hb', hp⟩ := hv.at' k hlt
      obtain rfl : vaa = ⟨b, off, none⟩ := by simpa using e
      clear e
      obtain ⟨c0, c1, c2, c3, c4, c5, c6⟩ := hp.below V.bel hb'
      have hsz : w.heap.size + 1 < wr.heap.size := V.rb.lt
      have cf1 : wr.cell? ⟨w.heap.size, 1, none⟩ = some (.slice (some ⟨b, off, none⟩) vn vc) := cell_of_row _ _ 1 _ _ _ V.bx
      go_wp2_with (first
        | (go_at_call 33; refine (mk33 _ _ _ _ _ _ _ _).mono ?_; rintro e w' ⟨rfl, rfl⟩)
        | (at_builtin; refine wpList_append_fits _ rfl (.tmp 27) (.tmp 43) 42 rfl (w.heap.size + 2) 78 i7 7 Try.underlying42 hi7 hs7 (w.heap.size + 2) k vn (flatP ps k) rfl (((V.own.alloc _).alloc _).alloc _) ⟨wr.heap.size + 2, 0, none⟩ 1 1 [.string (ps k).nm, .int .u8 (ps k).fn, .string (ps k).attr, .int .u64 (ps k).ver, .int .u64 (ps k).n, .int .i64 (ps k).hi, .int .u64 (ps k).lo] rfl rfl (fun j u hj => cells_new3 _ _ _ _ _ j u hj) (by intro u hu; simp at hu; rcases hu with rfl | rfl | rfl | rfl | rfl | rfl | rfl <;> rfl) (by omega) ?_; intro w2 hown2 hgrow2; have V2 := V.step hgrow2 hown2; clear hown2 hgrow2))
      go_roundw
      case rel => exact ⟨k + 1, by omega, by go_num, rfl, by assumption⟩
      case measure => simp [intOf]; omega
    · obtain rfl : k = vn := by omega
      obtain ⟨wo, rfl⟩ : ∃ wo : World, wo = wr := ⟨_, rfl⟩
      have D := V.done
      clear V hlt hk
      have cf2 : wo.cell? ⟨w.heap.size, 2, none⟩ = some (.slice (some baa) bn bc) := cell_of_row _ _ 2 _ _ _ D.bx
      go_wp2_with (at_make; go_loud (refine wpList_make_own _ rfl _ (.tmp 51) 43 rfl wo.heap.size 81 i8 _ 6 Try.underlying43 hi8 hz8 hs8 .i64 .i64 _ bn rfl rfl rfl (by rw [hy8]; omega) (by unfold maxLen; omega) (Nat.le_refl _) ?_; intro w2 hown2 hgrow2; have B0 := BInv.start bs hown2 hgrow2; clear hown2 hgrow2; have cg2 : w2.cell? ⟨w.heap.size, 2, none⟩ = some (.slice (some baa) bn bc) := cell_of_row _ _ 2 _ _ _ (D.below B0.bel).bx))
      go_loopw [6, 56] (fun v i wr => ∃ j : Nat, j ≤ bn ∧ i = .int .i64 j ∧ v = .slice (some ⟨wo.heap.size, 0, none⟩) j bn ∧ BInv wo bn bs j wr) (fun _ i _ => bn - (intOf i).toNat)
      case atStart => exact ⟨0, Nat.zero_le _, rfl, rfl, by assumption⟩
      case round =>
        clear cf2
        obtain ⟨j, hj, rfl, rfl, B⟩ := hrel
        have D' := D.below B.bel
        by_cases hlt : j < bn
        · obtain ⟨b, off, e, hb', hp⟩ := hb.at' j hlt
          obtain rfl : baa = ⟨b, off, none⟩ := by simpa using e
          clear e
          obtain ⟨c0, c1, c2, c3, c4, c5⟩ := hp.below D'.bel hb'
          have hsz : w.heap.size + 1 < wr.heap.size := D'.rb.lt
          have cf2 : wr.cell? ⟨w.heap.size, 2, none⟩ = some (.slice (some ⟨b, off, none⟩) bn bc) := cell_of_row _ _ 2 _ _ _ D'.bx
          go_wp2_with (first
            | (go_at_call 34; refine (mk34 _ _ _ _ _ _ _).mono ?_; rintro e w' ⟨rfl, rfl⟩)
            | (at_builtin; refine wpList_append_fits _ rfl (.tmp 64) (.tmp 78) 43 rfl wo.heap.size 81 i8 6 Try.underlying43 hi8 hs8 wo.heap.size j bn (flatB bs j) rfl (((B.own.alloc _).alloc _).alloc _) ⟨wr.heap.size + 2, 0, none⟩ 1 1 [.string (bs j).attr, .int .u64 (bs j).n, .int .i64 (bs j).lh, .int .u64 (bs j).ll, .int .i64 (bs j).hh, .int .u64 (bs j).hl] rfl rfl (fun j u hj => cells_new3 _ _ _ _ _ j u hj) (by intro u hu; simp at hu; rcases hu with rfl | rfl | rfl | rfl | rfl | rfl <;> rfl) (by omega) ?_; intro w2 hown2 hgrow2; have B2 := B.step hgrow2 hown2; clear hown2 hgrow2))
          go_roundw
          case rel => exact ⟨j + 1, by omega, by go_num, rfl, by assumption⟩
          case measure => simp [intOf]; omega
        · obtain rfl : j = bn := by omega
          have hP := D'.pars
          have hQ := bnds_of_own B.own
          have hne2 : wo.heap.size ≠ w.heap.size + 1 := by have := D.rb.lt; omega
          clear hlt hj
          have cf0 : wr.cell? ⟨w.heap.size, 0, none⟩ = some (.int .u64 m) := cell_of_row _ _ 0 _ _ _ D'.bx
          have cf3 : wr.cell? ⟨w.heap.size, 3, none⟩ = some (.int .u64 T.t0) := cell_of_row _ _ 3 _ _ _ D'.bx
          have cf4 : wr.cell? ⟨w.heap.size, 4, none⟩ = some (.int .u64 T.t1) := cell_of_row _ _ 4 _ _ _ D'.bx
          have cf5 : wr.cell? ⟨w.heap.size, 5, none⟩ = some (.int .u64 T.t2) := cell_of_row _ _ 5 _ _ _ D'.bx
          have cf6 : wr.cell? ⟨w.heap.size, 6, none⟩ = some (.int .u64 T.t3) := cell_of_row _ _ 6 _ _ _ D'.bx
          have cf7 : wr.cell? ⟨w.heap.size, 7, none⟩ = some (.int .u64 T.t4) := cell_of_row _ _ 7 _ _ _ D'.bx
          have cf8 : wr.cell? ⟨w.heap.size, 8, none⟩ = some (.int .u64 T.t5) := cell_of_row _ _ 8 _ _ _ D'.bx
          have cf9 : wr.cell? ⟨w.heap.size, 9, none⟩ = some (.int .u64 T.t6) := cell_of_row _ _ 9 _ _ _ D'.bx
          have cf10 : wr.cell? ⟨w.heap.size, 10, none⟩ = some (.int .u64 T.t7) := cell_of_row _ _ 10 _ _ _ D'.bx
          have cf11 : wr.cell? ⟨w.heap.size, 11, none⟩ = some (.int .u64 T.t8) := cell_of_row _ _ 11 _ _ _ D'.bx
          have cf12 : wr.cell? ⟨w.heap.size, 12, none⟩ = some (.int .u64 T.t9) := cell_of_row _ _ 12 _ _ _ D'.bx
          have cf13 : wr.cell? ⟨w.heap.size, 13, none⟩ = some (.int .u64 T.t10) := cell_of_row _ _ 13 _ _ _ D'.bx
          have cf14 : wr.cell? ⟨w.heap.size, 14, none⟩ = some (.int .u64 T.t11) := cell_of_row _ _ 14 _ _ _ D'.bx
          have cf15 : wr.cell? ⟨w.heap.size, 15, none⟩ = some (.int .u64 T.t12) := cell_of_row _ _ 15 _ _ _ D'.bx
          have cf16 : wr.cell? ⟨w.heap.size, 16, none⟩ = some (.int .u64 T.t13) := cell_of_row _ _ 16 _ _ _ D'.bx
          have cf17 : wr.cell? ⟨w.heap.size, 17, none⟩ = some (.int .u64 T.t14) := cell_of_row _ _ 17 _ _ _ D'.bx
          have cf18 : wr.cell? ⟨w.heap.size, 18, none⟩ = some (.int .u64 T.t15) := cell_of_row _ _ 18 _ _ _ D'.bx
          have cf19 : wr.cell? ⟨w.heap.size, 19, none⟩ = some (.bool cut) := cell_of_row _ _ 19 _ _ _ D'.bx
          go_wp2_with (first
            | (go_at_call 35; go_loud (refine (mk35 m (some ⟨w.heap.size + 2, 0, none⟩) k k (some ⟨wo.heap.size, 0, none⟩) j j T cut _).mono ?_; rintro e w3 ⟨rfl, hb3⟩; have hr3 := D'.rb.below hb3 D'.rb.lt))
            | (refine wpList_store_row rfl 46 (.tmp 2) (.tmp 89) rfl (w.heap.size + 1) (tcells m (some ⟨w.heap.size + 2, 0, none⟩) k k (some ⟨wo.heap.size, 0, none⟩) j j T cut) rfl rfl 46 tzero hr3 (info46 rfl) rfl (by simp [tcells, Value.oneCell']) ?_))
          exact bodyPost_ret (v := .agg (tcells m (some ⟨w.heap.size + 2, 0, none⟩) k k (some ⟨wo.heap.size, 0, none⟩) j j T cut)) (results_cell_row Try.results18 _ _ (w.heap.size + 1) 46 _ (0, 0) _ rfl (setRow_heap _ _ tzero _ 46 (0, 0) hr3) Try.underlying46 rfl (info46 rfl)) rfl ⟨_, rfl, ⟨_, _, _, _, rfl, ((hP.below hb3).setRow (by omega)), ((hQ.below hb3).setRow hne2)⟩, below_setRow (D'.bel.trans (hb3.mono D'.bel.size)) (Nat.le_succ _) _⟩

set_option maxRecDepth 10000 in
set_option maxHeartbeats 4000000 in
theorem tot18_sn (m : Int) (vaa : Addr) (vn vc : Nat) (bc : Nat) (T : Tops) (cut : Bool) (ps : Nat → Par) (bs : Nat → Bnd) (w : World) (hv : IsPars w (some vaa) vn ps) (hvl : vn ≤ 4096)  :
    Calls Try.prog 18 #[.agg #[.int .u64 m, .slice (some vaa) vn vc, .slice none 0 bc, .int .u64 T.t0, .int .u64 T.t1, .int .u64 T.t2, .int .u64 T.t3, .int .u64 T.t4, .int .u64 T.t5, .int .u64 T.t6, .int .u64 T.t7, .int .u64 T.t8, .int .u64 T.t9, .int .u64 T.t10, .int .u64 T.t11, .int .u64 T.t12, .int .u64 T.t13, .int .u64 T.t14, .int .u64 T.t15, .bool cut]] w fun e w' => ∃ cs', e = .returned (.agg cs') ∧ TalIn w' ⟨m, vn, ps, 0, bs, T, cut⟩ cs' ∧ Below w.heap.size w w' := by
  obtain ⟨i7, hi7, hz7, hs7, hy7⟩ := info_parts info78
  obtain ⟨i8, hi8, hz8, hs8, hy8⟩ := info_parts info81
  have hn1 := fun (w : World) (a : Option Addr) (n c : Nat) => run_neq_slice_nil_any (P := Try.prog) w 36 68 a n c 0 0 Try.underlying36
  have hn2 := fun (w : World) (a : Option Addr) (n c : Nat) => run_neq_slice_nil_any (P := Try.prog) w 37 70 a n c 0 0 Try.underlying37
  go_enter Try.func18, Try.ntmps18
  go_wp2_with (at_make; go_loud (refine wpList_make_own _ rfl _ (.tmp 14) 42 rfl (w.heap.size + 2) 78 i7 _ 7 Try.underlying42 hi7 hz7 hs7 .i64 .i64 _ vn rfl rfl rfl (by rw [hy7]; omega) (by unfold maxLen; omega) (by simp) ?_; intro w1 hown1 hgrow1; have V0 := VInv.start (cs := #[.int .u64 m, .slice (some vaa) vn vc, .slice none 0 bc, .int .u64 T.t0, .int .u64 T.t1, .int .u64 T.t2, .int .u64 T.t3, .int .u64 T.t4, .int .u64 T.t5, .int .u64 T.t6, .int .u64 T.t7, .int .u64 T.t8, .int .u64 T.t9, .int .u64 T.t10, .int .u64 T.t11, .int .u64 T.t12, .int .u64 T.t13, .int .u64 T.t14, .int .u64 T.t15, .bool cut]) ps hown1 hgrow1; clear hown1 hgrow1; have cf1 : w1.cell? ⟨w.heap.size, 1, none⟩ = some (.slice (some vaa) vn vc) := cell_of_row _ _ 1 _ _ _ V0.bx))
  clear cf1
  go_loopw [3, 19] (fun v i wr => ∃ k : Nat, k ≤ vn ∧ i = .int .i64 k ∧ v = .slice (some ⟨w.heap.size + 2, 0, none⟩) k vn ∧ VInv w #[.int .u64 m, .slice (some vaa) vn vc, .slice none 0 bc, .int .u64 T.t0, .int .u64 T.t1, .int .u64 T.t2, .int .u64 T.t3, .int .u64 T.t4, .int .u64 T.t5, .int .u64 T.t6, .int .u64 T.t7, .int .u64 T.t8, .int .u64 T.t9, .int .u64 T.t10, .int .u64 T.t11, .int .u64 T.t12, .int .u64 T.t13, .int .u64 T.t14, .int .u64 T.t15, .bool cut] vn ps k wr) (fun _ i _ => vn - (intOf i).toNat)
  case atStart => exact ⟨0, Nat.zero_le _, rfl, rfl, V0⟩
  case round =>
    clear V0
    obtain ⟨k, hk, rfl, rfl, V⟩ := hrel
    by_cases hlt : k < vn
    · obtain ⟨b, off, e, hb', hp⟩ := hv.at' k hlt
      obtain rfl : vaa = ⟨b, off, none⟩ := by simpa using e
      clear e
      obtain ⟨c0, c1, c2, c3, c4, c5, c6⟩ := hp.below V.bel hb'
      have hsz : w.heap.size + 1 < wr.heap.size := V.rb.lt
      have cf1 : wr.cell? ⟨w.heap.size, 1, none⟩ = some (.slice (some ⟨b, off, none⟩) vn vc) := cell_of_row _ _ 1 _ _ _ V.bx
      go_wp2_with (first
        | (go_at_call 33; refine (mk33 _ _ _ _ _ _ _ _).mono ?_; rintro e w' ⟨rfl, rfl⟩)
        | (at_builtin; refine wpList_append_fits _ rfl (.tmp 27) (.tmp 43) 42 rfl (w.heap.size + 2) 78 i7 7 Try.underlying42 hi7 hs7 (w.heap.size + 2) k vn (flatP ps k) rfl (((V.own.alloc _).alloc _).alloc _) ⟨wr.heap.size + 2, 0, none⟩ 1 1 [.string (ps k).nm, .int .u8 (ps k).fn, .string (ps k).attr, .int .u64 (ps k).ver, .int .u64 (ps k).n, .int .i64 (ps k).hi, .int .u64 (ps k).lo] rfl rfl (fun j u hj => cells_new3 _ _ _ _ _ j u hj) (by intro u hu; simp at hu; rcases hu with rfl | rfl | rfl | rfl | rfl | rfl | rfl <;> rfl) (by omega) ?_; intro w2 hown2 hgrow2; have V2 := V.step hgrow2 hown2; clear hown2 hgrow2))
      go_roundw
      case rel => exact ⟨k + 1, by omega, by go_num, rfl, by assumption⟩
      case measure => simp [intOf]; omega
    · obtain rfl : k = vn := by omega
      obtain ⟨wo, rfl⟩ : ∃ wo : World, wo = wr := ⟨_, rfl⟩
      have D := V.done
      clear V hlt hk
      have cf2 : wo.cell? ⟨w.heap.size, 2, none⟩ = some (.slice none 0 bc) := cell_of_row _ _ 2 _ _ _ D.bx
      go_wp2
      clear cf2
      go_loop [6, 56] (fun v i => v = .slice none 0 0 ∧ i = .int .i64 0) (fun _ _ => 0)
      case atStart => exact ⟨rfl, rfl⟩
      case round =>
        obtain ⟨rfl, rfl⟩ := hrel
        have D' := D
        obtain ⟨wr, rfl⟩ : ∃ wr : World, wr = wo := ⟨_, rfl⟩
        have hP := D'.pars
        have hQ := IsBnds.zero wr none bs
        have cf0 : wr.cell? ⟨w.heap.size, 0, none⟩ = some (.int .u64 m) := cell_of_row _ _ 0 _ _ _ D'.bx
        have cf3 : wr.cell? ⟨w.heap.size, 3, none⟩ = some (.int .u64 T.t0) := cell_of_row _ _ 3 _ _ _ D'.bx
        have cf4 : wr.cell? ⟨w.heap.size, 4, none⟩ = some (.int .u64 T.t1) := cell_of_row _ _ 4 _ _ _ D'.bx
        have cf5 : wr.cell? ⟨w.heap.size, 5, none⟩ = some (.int .u64 T.t2) := cell_of_row _ _ 5 _ _ _ D'.bx
        have cf6 : wr.cell? ⟨w.heap.size, 6, none⟩ = some (.int .u64 T.t3) := cell_of_row _ _ 6 _ _ _ D'.bx
        have cf7 : wr.cell? ⟨w.heap.size, 7, none⟩ = some (.int .u64 T.t4) := cell_of_row _ _ 7 _ _ _ D'.bx
        have cf8 : wr.cell? ⟨w.heap.size, 8, none⟩ = some (.int .u64 T.t5) := cell_of_row _ _ 8 _ _ _ D'.bx
        have cf9 : wr.cell? ⟨w.heap.size, 9, none⟩ = some (.int .u64 T.t6) := cell_of_row _ _ 9 _ _ _ D'.bx
        have cf10 : wr.cell? ⟨w.heap.size, 10, none⟩ = some (.int .u64 T.t7) := cell_of_row _ _ 10 _ _ _ D'.bx
        have cf11 : wr.cell? ⟨w.heap.size, 11, none⟩ = some (.int .u64 T.t8) := cell_of_row _ _ 11 _ _ _ D'.bx
        have cf12 : wr.cell? ⟨w.heap.size, 12, none⟩ = some (.int .u64 T.t9) := cell_of_row _ _ 12 _ _ _ D'.bx
        have cf13 : wr.cell? ⟨w.heap.size, 13, none⟩ = some (.int .u64 T.t10) := cell_of_row _ _ 13 _ _ _ D'.bx
        have cf14 : wr.cell? ⟨w.heap.size, 14, none⟩ = some (.int .u64 T.t11) := cell_of_row _ _ 14 _ _ _ D'.bx
        have cf15 : wr.cell? ⟨w.heap.size, 15, none⟩ = some (.int .u64 T.t12) := cell_of_row _ _ 15 _ _ _ D'.bx
        have cf16 : wr.cell? ⟨w.heap.size, 16, none⟩ = some (.int .u64 T.t13) := cell_of_row _ _ 16 _ _ _ D'.bx
        have cf17 : wr.cell? ⟨w.heap.size, 17, none⟩ = some (.int .u64 T.t14) := cell_of_row _ _ 17 _ _ _ D'.bx
        have cf18 : wr.cell? ⟨w.heap.size, 18, none⟩ = some (.int .u64 T.t15) := cell_of_row _ _ 18 _ _ _ D'.bx
        have cf19 : wr.cell? ⟨w.heap.size, 19, none⟩ = some (.bool cut) := cell_of_row _ _ 19 _ _ _ D'.bx
        go_wp2_with (first
          | (go_at_call 35; go_loud (refine (mk35 m (some ⟨w.heap.size + 2, 0, none⟩) k k none 0 0 T cut _).mono ?_; rintro e w3 ⟨rfl, hb3⟩; have hr3 := D'.rb.below hb3 D'.rb.lt))
          | (refine wpList_store_row rfl 46 (.tmp 2) (.tmp 89) rfl (w.heap.size + 1) (tcells m (some ⟨w.heap.size + 2, 0, none⟩) k k none 0 0 T cut) rfl rfl 46 tzero hr3 (info46 rfl) rfl (by simp [tcells, Value.oneCell']) ?_))
        exact bodyPost_ret (v := .agg (tcells m (some ⟨w.heap.size + 2, 0, none⟩) k k none 0 0 T cut)) (results_cell_row Try.results18 _ _ (w.heap.size + 1) 46 _ (0, 0) _ rfl (setRow_heap _ _ tzero _ 46 (0, 0) hr3) Try.underlying46 rfl (info46 rfl)) rfl ⟨_, rfl, ⟨_, _, _, _, rfl, ((hP.below hb3).setRow (by omega)), IsBnds.zero _ _ _⟩, below_setRow (D'.bel.trans (hb3.mono D'.bel.size)) (Nat.le_succ _) _⟩

set_option maxRecDepth 10000 in
set_option maxHeartbeats 4000000 in
theorem tot18_ns (m : Int) (vc : Nat) (baa : Addr) (bn bc : Nat) (T : Tops) (cut : Bool) (ps : Nat → Par) (bs : Nat → Bnd) (w : World)  (hb : IsBnds w (some baa) bn bs) (hbl : bn ≤ 4096) :
    Calls Try.prog 18 #[.agg #[.int .u64 m, .slice none 0 vc, .slice (some baa) bn bc, .int .u64 T.t0, .int .u64 T.t1, .int .u64 T.t2, .int .u64 T.t3, .int .u64 T.t4, .int .u64 T.t5, .int .u64 T.t6, .int .u64 T.t7, .int .u64 T.t8, .int .u64 T.t9, .int .u64 T.t10, .int .u64 T.t11, .int .u64 T.t12, .int .u64 T.t13, .int .u64 T.t14, .int .u64 T.t15, .bool cut]] w fun e w' => ∃ cs', e = .returned (.agg cs') ∧ TalIn w' ⟨m, 0, ps, bn, bs, T, cut⟩ cs' ∧ Below w.heap.size w w' := by
  obtain ⟨i7, hi7, hz7, hs7, hy7⟩ := info_parts info78
  obtain ⟨i8, hi8, hz8, hs8, hy8⟩ := info_parts info81
  have hn1 := fun (w : World) (a : Option Addr) (n c : Nat) => run_neq_slice_nil_any (P := Try.prog) w 36 68 a n c 0 0 Try.underlying36
  have hn2 := fun (w : World) (a : Option Addr) (n c : Nat) => run_neq_slice_nil_any (P := Try.prog) w 37 70 a n c 0 0 Try.underlying37
  go_enter Try.func18, Try.ntmps18
  have D : VDone w #[.int .u64 m, .slice none 0 vc, .slice (some baa) bn bc, .int .u64 T.t0, .int .u64 T.t1, .int .u64 T.t2, .int .u64 T.t3, .int .u64 T.t4, .int .u64 T.t5, .int .u64 T.t6, .int .u64 T.t7, .int .u64 T.t8, .int .u64 T.t9, .int .u64 T.t10, .int .u64 T.t11, .int .u64 T.t12, .int .u64 T.t13, .int .u64 T.t14, .int .u64 T.t15, .bool cut] ps 0 none ((w.alloc (.cells #[.int .u64 m, .slice none 0 vc, .slice (some baa) bn bc, .int .u64 T.t0, .int .u64 T.t1, .int .u64 T.t2, .int .u64 T.t3, .int .u64 T.t4, .int .u64 T.t5, .int .u64 T.t6, .int .u64 T.t7, .int .u64 T.t8, .int .u64 T.t9, .int .u64 T.t10, .int .u64 T.t11, .int .u64 T.t12, .int .u64 T.t13, .int .u64 T.t14, .int .u64 T.t15, .bool cut] 40)).alloc (.cells #[.int .u64 0, .slice none 0 0, .slice none 0 0, .int .u64 0, .int .u64 0, .int .u64 0, .int .u64 0, .int .u64 0, .int .u64 0, .int .u64 0, .int .u64 0, .int .u64 0, .int .u64 0, .int .u64 0, .int .u64 0, .int .u64 0, .int .u64 0, .int .u64 0, .int .u64 0, .bool false] 46)) := VDone.nil w #[.int .u64 m, .slice none 0 vc, .slice (some baa) bn bc, .int .u64 T.t0, .int .u64 T.t1, .int .u64 T.t2, .int .u64 T.t3, .int .u64 T.t4, .int .u64 T.t5, .int .u64 T.t6, .int .u64 T.t7, .int .u64 T.t8, .int .u64 T.t9, .int .u64 T.t10, .int .u64 T.t11, .int .u64 T.t12, .int .u64 T.t13, .int .u64 T.t14, .int .u64 T.t15, .bool cut] ps
  go_wp2
  go_loop [3, 19] (fun v i => v = .slice none 0 0 ∧ i = .int .i64 0) (fun _ _ => 0)
  case atStart => exact ⟨rfl, rfl⟩
  case round =>
    obtain ⟨rfl, rfl⟩ := hrel
    generalize ((w.alloc (.cells #[.int .u64 m, .slice none 0 vc, .slice (some baa) bn bc, .int .u64 T.t0, .int .u64 T.t1, .int .u64 T.t2, .int .u64 T.t3, .int .u64 T.t4, .int .u64 T.t5, .int .u64 T.t6, .int .u64 T.t7, .int .u64 T.t8, .int .u64 T.t9, .int .u64 T.t10, .int .u64 T.t11, .int .u64 T.t12, .int .u64 T.t13, .int .u64 T.t14, .int .u64 T.t15, .bool cut] 40)).alloc (.cells #[.int .u64 0, .slice none 0 0, .slice none 0 0, .int .u64 0, .int .u64 0, .int .u64 0, .int .u64 0, .int .u64 0, .int .u64 0, .int .u64 0, .int .u64 0, .int .u64 0, .int .u64 0, .int .u64 0, .int .u64 0, .int .u64 0, .int .u64 0, .int .u64 0, .int .u64 0, .bool false] 46)) = wo at D ⊢
    have cf2 : wo.cell? ⟨w.heap.size, 2, none⟩ = some (.slice (some baa) bn bc) := cell_of_row _ _ 2 _ _ _ D.bx
    go_wp2_with (at_make; go_loud (refine wpList_make_own _ rfl _ (.tmp 51) 43 rfl wo.heap.size 81 i8 _ 6 Try.underlying43 hi8 hz8 hs8 .i64 .i64 _ bn rfl rfl rfl (by rw [hy8]; omega) (by unfold maxLen; omega) (Nat.le_refl _) ?_; intro w2 hown2 hgrow2; have B0 := BInv.start bs hown2 hgrow2; clear hown2 hgrow2; have cg2 : w2.cell? ⟨w.heap.size, 2, none⟩ = some (.slice (some baa) bn bc) := cell_of_row _ _ 2 _ _ _ (D.below B0.bel).bx))
    go_loopw [6, 56] (fun v i wr => ∃ j : Nat, j ≤ bn ∧ i = .int .i64 j ∧ v = .slice (some ⟨wo.heap.size, 0, none⟩) j bn ∧ BInv wo bn bs j wr) (fun _ i _ => bn - (intOf i).toNat)
    case atStart => exact ⟨0, Nat.zero_le _, rfl, rfl, by assumption⟩
    case round =>
      clear cf2
      obtain ⟨j, hj, rfl, rfl, B⟩ := hrel
      have D' := D.below B.bel
      by_cases hlt : j < bn
      · obtain ⟨b, off, e, hb', hp⟩ := hb.at' j hlt
        obtain rfl : baa = ⟨b, off, none⟩ := by simpa using e
        clear e
        obtain ⟨c0, c1, c2, c3, c4, c5⟩ := hp.below D'.bel hb'
        have hsz : w.heap.size + 1 < wr.heap.size := D'.rb.lt
        have cf2 : wr.cell? ⟨w.heap.size, 2, none⟩ = some (.slice (some ⟨b, off, none⟩) bn bc) := cell_of_row _ _ 2 _ _ _ D'.bx
        go_wp2_with (first
          | (go_at_call 34; refine (mk34 _ _ _ _ _ _ _).mono ?_; rintro e w' ⟨rfl, rfl⟩)
          | (at_builtin; refine wpList_append_fits _ rfl (.tmp 64) (.tmp 78) 43 rfl wo.heap.size 81 i8 6 Try.underlying43 hi8 hs8 wo.heap.size j bn (flatB bs j) rfl (((B.own.alloc _).alloc _).alloc _) ⟨wr.heap.size + 2, 0, none⟩ 1 1 [.string (bs j).attr, .int .u64 (bs j).n, .int .i64 (bs j).lh, .int .u64 (bs j).ll, .int .i64 (bs j).hh, .int .u64 (bs j).hl] rfl rfl (fun j u hj => cells_new3 _ _ _ _ _ j u hj) (by intro u hu; simp at hu; rcases hu with rfl | rfl | rfl | rfl | rfl | rfl <;> rfl) (by omega) ?_; intro w2 hown2 hgrow2; have B2 := B.step hgrow2 hown2; clear hown2 hgrow2))
        go_roundw
        case rel => exact ⟨j + 1, by omega, by go_num, rfl, by assumption⟩
        case measure => simp [intOf]; omega
      · obtain rfl : j = bn := by omega
        have hP := IsPars.zero wr none ps
        have hQ := bnds_of_own B.own
        have hne2 : wo.heap.size ≠ w.heap.size + 1 := by have := D.rb.lt; omega
        clear hlt hj
        have cf0 : wr.cell? ⟨w.heap.size, 0, none⟩ = some (.int .u64 m) := cell_of_row _ _ 0 _ _ _ D'.bx
        have cf3 : wr.cell? ⟨w.heap.size, 3, none⟩ = some (.int .u64 T.t0) := cell_of_row _ _ 3 _ _ _ D'.bx
        have cf4 : wr.cell? ⟨w.heap.size, 4, none⟩ = some (.int .u64 T.t1) := cell_of_row _ _ 4 _ _ _ D'.bx
        have cf5 : wr.cell? ⟨w.heap.size, 5, none⟩ = some (.int .u64 T.t2) := cell_of_row _ _ 5 _ _ _ D'.bx
        have cf6 : wr.cell? ⟨w.heap.size, 6, none⟩ = some (.int .u64 T.t3) := cell_of_row _ _ 6 _ _ _ D'.bx
        have cf7 : wr.cell? ⟨w.heap.size, 7, none⟩ = some (.int .u64 T.t4) := cell_of_row _ _ 7 _ _ _ D'.bx
        have cf8 : wr.cell? ⟨w.heap.size, 8, none⟩ = some (.int .u64 T.t5) := cell_of_row _ _ 8 _ _ _ D'.bx
        have cf9 : wr.cell? ⟨w.heap.size, 9, none⟩ = some (.int .u64 T.t6) := cell_of_row _ _ 9 _ _ _ D'.bx
        have cf10 : wr.cell? ⟨w.heap.size, 10, none⟩ = some (.int .u64 T.t7) := cell_of_row _ _ 10 _ _ _ D'.bx
        have cf11 : wr.cell? ⟨w.heap.size, 11, none⟩ = some (.int .u64 T.t8) := cell_of_row _ _ 11 _ _ _ D'.bx
        have cf12 : wr.cell? ⟨w.heap.size, 12, none⟩ = some (.int .u64 T.t9) := cell_of_row _ _ 12 _ _ _ D'.bx
        have cf13 : wr.cell? ⟨w.heap.size, 13, none⟩ = some (.int .u64 T.t10) := cell_of_row _ _ 13 _ _ _ D'.bx
        have cf14 : wr.cell? ⟨w.heap.size, 14, none⟩ = some (.int .u64 T.t11) := cell_of_row _ _ 14 _ _ _ D'.bx
        have cf15 : wr.cell? ⟨w.heap.size, 15, none⟩ = some (.int .u64 T.t12) := cell_of_row _ _ 15 _ _ _ D'.bx
        have cf16 : wr.cell? ⟨w.heap.size, 16, none⟩ = some (.int .u64 T.t13) := cell_of_row _ _ 16 _ _ _ D'.bx
        have cf17 : wr.cell? ⟨w.heap.size, 17, none⟩ = some (.int .u64 T.t14) := cell_of_row _ _ 17 _ _ _ D'.bx
        have cf18 : wr.cell? ⟨w.heap.size, 18, none⟩ = some (.int .u64 T.t15) := cell_of_row _ _ 18 _ _ _ D'.bx
        have cf19 : wr.cell? ⟨w.heap.size, 19, none⟩ = some (.bool cut) := cell_of_row _ _ 19 _ _ _ D'.bx
        go_wp2_with (first
          | (go_at_call 35; go_loud (refine (mk35 m none 0 0 (some ⟨wo.heap.size, 0, none⟩) j j T cut _).mono ?_; rintro e w3 ⟨rfl, hb3⟩; have hr3 := D'.rb.below hb3 D'.rb.lt))
          | (refine wpList_store_row rfl 46 (.tmp 2) (.tmp 89) rfl (w.heap.size + 1) (tcells m none 0 0 (some ⟨wo.heap.size, 0, none⟩) j j T cut) rfl rfl 46 tzero hr3 (info46 rfl) rfl (by simp [tcells, Value.oneCell']) ?_))
        exact bodyPost_ret (v := .agg (tcells m none 0 0 (some ⟨wo.heap.size, 0, none⟩) j j T cut)) (results_cell_row Try.results18 _ _ (w.heap.size + 1) 46 _ (0, 0) _ rfl (setRow_heap _ _ tzero _ 46 (0, 0) hr3) Try.underlying46 rfl (info46 rfl)) rfl ⟨_, rfl, ⟨_, _, _, _, rfl, IsPars.zero _ _ _, ((hQ.below hb3).setRow hne2)⟩, below_setRow (D'.bel.trans (hb3.mono D'.bel.size)) (Nat.le_succ _) _⟩

set_option maxRecDepth 10000 in
set_option maxHeartbeats 4000000 in
theorem tot18_nn (m : Int) (vc : Nat) (bc : Nat) (T : Tops) (cut : Bool) (ps : Nat → Par) (bs : Nat → Bnd) (w : World)   :
    Calls Try.prog 18 #[.agg #[.int .u64 m, .slice none 0 vc, .slice none 0 bc, .int .u64 T.t0, .int .u64 T.t1, .int .u64 T.t2, .int .u64 T.t3, .int .u64 T.t4, .int .u64 T.t5, .int .u64 T.t6, .int .u64 T.t7, .int .u64 T.t8, .int .u64 T.t9, .int .u64 T.t10, .int .u64 T.t11, .int .u64 T.t12, .int .u64 T.t13, .int .u64 T.t14, .int .u64 T.t15, .bool cut]] w fun e w' => ∃ cs', e = .returned (.agg cs') ∧ TalIn w' ⟨m, 0, ps, 0, bs, T, cut⟩ cs' ∧ Below w.heap.size w w' := by
  obtain ⟨i7, hi7, hz7, hs7, hy7⟩ := info_parts info78
  obtain ⟨i8, hi8, hz8, hs8, hy8⟩ := info_parts info81
  have hn1 := fun (w : World) (a : Option Addr) (n c : Nat) => run_neq_slice_nil_any (P := Try.prog) w 36 68 a n c 0 0 Try.underlying36
  have hn2 := fun (w : World) (a : Option Addr) (n c : Nat) => run_neq_slice_nil_any (P := Try.prog) w 37 70 a n c 0 0 Try.underlying37
  go_enter Try.func18, Try.ntmps18
  have D : VDone w #[.int .u64 m, .slice none 0 vc, .slice none 0 bc, .int .u64 T.t0, .int .u64 T.t1, .int .u64 T.t2, .int .u64 T.t3, .int .u64 T.t4, .int .u64 T.t5, .int .u64 T.t6, .int .u64 T.t7, .int .u64 T.t8, .int .u64 T.t9, .int .u64 T.t10, .int .u64 T.t11, .int .u64 T.t12, .int .u64 T.t13, .int .u64 T.t14, .int .u64 T.t15, .bool cut] ps 0 none ((w.alloc (.cells #[.int .u64 m, .slice none 0 vc, .slice none 0 bc, .int .u64 T.t0, .int .u64 T.t1, .int .u64 T.t2, .int .u64 T.t3, .int .u64 T.t4, .int .u64 T.t5, .int .u64 T.t6, .int .u64 T.t7, .int .u64 T.t8, .int .u64 T.t9, .int .u64 T.t10, .int .u64 T.t11, .int .u64 T.t12, .int .u64 T.t13, .int .u64 T.t14, .int .u64 T.t15, .bool cut] 40)).alloc (.cells #[.int .u64 0, .slice none 0 0, .slice none 0 0, .int .u64 0, .int .u64 0, .int .u64 0, .int .u64 0, .int .u64 0, .int .u64 0, .int .u64 0, .int .u64 0, .int .u64 0, .int .u64 0, .int .u64 0, .int .u64 0, .int .u64 0, .int .u64 0, .int .u64 0, .int .u64 0, .bool false] 46)) := VDone.nil w #[.int .u64 m, .slice none 0 vc, .slice none 0 bc, .int .u64 T.t0, .int .u64 T.t1, .int .u64 T.t2, .int .u64 T.t3, .int .u64 T.t4, .int .u64 T.t5, .int .u64 T.t6, .int .u64 T.t7, .int .u64 T.t8, .int .u64 T.t9, .int .u64 T.t10, .int .u64 T.t11, .int .u64 T.t12, .int .u64 T.t13, .int .u64 T.t14, .int .u64 T.t15, .bool cut] ps
  go_wp2
  go_loop [3, 19] (fun v i => v = .slice none 0 0 ∧ i = .int .i64 0) (fun _ _ => 0)
  case atStart => exact ⟨rfl, rfl⟩
  case round =>
    obtain ⟨rfl, rfl⟩ := hrel
    generalize ((w.alloc (.cells #[.int .u64 m, .slice none 0 vc, .slice none 0 bc, .int .u64 T.t0, .int .u64 T.t1, .int .u64 T.t2, .int .u64 T.t3, .int .u64 T.t4, .int .u64 T.t5, .int .u64 T.t6, .int .u64 T.t7, .int .u64 T.t8, .int .u64 T.t9, .int .u64 T.t10, .int .u64 T.t11, .int .u64 T.t12, .int .u64 T.t13, .int .u64 T.t14, .int .u64 T.t15, .bool cut] 40)).alloc (.cells #[.int .u64 0, .slice none 0 0, .slice none 0 0, .int .u64 0, .int .u64 0, .int .u64 0, .int .u64 0, .int .u64 0, .int .u64 0, .int .u64 0, .int .u64 0, .int .u64 0, .int .u64 0, .int .u64 0, .int .u64 0, .int .u64 0, .int .u64 0, .int .u64 0, .int .u64 0, .bool false] 46)) = wo at D ⊢
    have cf2 : wo.cell? ⟨w.heap.size, 2, none⟩ = some (.slice none 0 bc) := cell_of_row _ _ 2 _ _ _ D.bx
    go_wp2
    clear cf2
    go_loop [6, 56] (fun v i => v = .slice none 0 0 ∧ i = .int .i64 0) (fun _ _ => 0)
    case atStart => exact ⟨rfl, rfl⟩
    case round =>
      obtain ⟨rfl, rfl⟩ := hrel
      have D' := D
      obtain ⟨wr, rfl⟩ : ∃ wr : World, wr = wo := ⟨_, rfl⟩
      have hP := IsPars.zero wr none ps
      have hQ := IsBnds.zero wr none bs
      have cf0 : wr.cell? ⟨w.heap.size, 0, none⟩ = some (.int .u64 m) := cell_of_row _ _ 0 _ _ _ D'.bx
      have cf3 : wr.cell? ⟨w.heap.size, 3, none⟩ = some (.int .u64 T.t0) := cell_of_row _ _ 3 _ _ _ D'.bx
      have cf4 : wr.cell? ⟨w.heap.size, 4, none⟩ = some (.int .u64 T.t1) := cell_of_row _ _ 4 _ _ _ D'.bx
      have cf5 : wr.cell? ⟨w.heap.size, 5, none⟩ = some (.int .u64 T.t2) := cell_of_row _ _ 5 _ _ _ D'.bx
      have cf6 : wr.cell? ⟨w.heap.size, 6, none⟩ = some (.int .u64 T.t3) := cell_of_row _ _ 6 _ _ _ D'.bx
      have cf7 : wr.cell? ⟨w.heap.size, 7, none⟩ = some (.int .u64 T.t4) := cell_of_row _ _ 7 _ _ _ D'.bx
      have cf8 : wr.cell? ⟨w.heap.size, 8, none⟩ = some (.int .u64 T.t5) := cell_of_row _ _ 8 _ _ _ D'.bx
      have cf9 : wr.cell? ⟨w.heap.size, 9, none⟩ = some (.int .u64 T.t6) := cell_of_row _ _ 9 _ _ _ D'.bx
      have cf10 : wr.cell? ⟨w.heap.size, 10, none⟩ = some (.int .u64 T.t7) := cell_of_row _ _ 10 _ _ _ D'.bx
      have cf11 : wr.cell? ⟨w.heap.size, 11, none⟩ = some (.int .u64 T.t8) := cell_of_row _ _ 11 _ _ _ D'.bx
      have cf12 : wr.cell? ⟨w.heap.size, 12, none⟩ = some (.int .u64 T.t9) := cell_of_row _ _ 12 _ _ _ D'.bx
      have cf13 : wr.cell? ⟨w.heap.size, 13, none⟩ = some (.int .u64 T.t10) := cell_of_row _ _ 13 _ _ _ D'.bx
      have cf14 : wr.cell? ⟨w.heap.size, 14, none⟩ = some (.int .u64 T.t11) := cell_of_row _ _ 14 _ _ _ D'.bx
      have cf15 : wr.cell? ⟨w.heap.size, 15, none⟩ = some (.int .u64 T.t12) := cell_of_row _ _ 15 _ _ _ D'.bx
      have cf16 : wr.cell? ⟨w.heap.size, 16, none⟩ = some (.int .u64 T.t13) := cell_of_row _ _ 16 _ _ _ D'.bx
      have cf17 : wr.cell? ⟨w.heap.size, 17, none⟩ = some (.int .u64 T.t14) := cell_of_row _ _ 17 _ _ _ D'.bx
      have cf18 : wr.cell? ⟨w.heap.size, 18, none⟩ = some (.int .u64 T.t15) := cell_of_row _ _ 18 _ _ _ D'.bx
      have cf19 : wr.cell? ⟨w.heap.size, 19, none⟩ = some (.bool cut) := cell_of_row _ _ 19 _ _ _ D'.bx
      go_wp2_with (first
        | (go_at_call 35; go_loud (refine (mk35 m none 0 0 none 0 0 T cut _).mono ?_; rintro e w3 ⟨rfl, hb3⟩; have hr3 := D'.rb.below hb3 D'.rb.lt))
        | (refine wpList_store_row rfl 46 (.tmp 2) (.tmp 89) rfl (w.heap.size + 1) (tcells m none 0 0 none 0 0 T cut) rfl rfl 46 tzero hr3 (info46 rfl) rfl (by simp [tcells, Value.oneCell']) ?_))
      exact bodyPost_ret (v := .agg (tcells m none 0 0 none 0 0 T cut)) (results_cell_row Try.results18 _ _ (w.heap.size + 1) 46 _ (0, 0) _ rfl (setRow_heap _ _ tzero _ 46 (0, 0) hr3) Try.underlying46 rfl (info46 rfl)) rfl ⟨_, rfl, ⟨_, _, _, _, rfl, IsPars.zero _ _ _, IsBnds.zero _ _ _⟩, below_setRow (D'.bel.trans (hb3.mono D'.bel.size)) (Nat.le_succ _) _⟩

theorem tot18 (A : Tal) (cs : Array Value) (w : World) (h : TalIn w A cs) (hvl : A.vn ≤ 4096) (hbl : A.bn ≤ 4096) :
    Calls Try.prog 18 #[.agg cs] w fun e w' => ∃ cs', e = .returned (.agg cs') ∧ TalIn w' A cs' ∧ Below w.heap.size w w' := by
  obtain ⟨va, vc, ba, bc, rfl, hp, hb⟩ := h
  obtain ⟨m, vn, ps, bn, bs, T, cut⟩ := A
  have hv0 : va = none → vn = 0 := by
    rintro rfl
    by_cases h0 : vn = 0
    · exact h0
    · obtain ⟨b, off, e, _⟩ := hp.at' 0 (Nat.pos_of_ne_zero h0); cases e
  have hb0 : ba = none → bn = 0 := by
    rintro rfl
    by_cases h0 : bn = 0
    · exact h0
    · obtain ⟨b, off, e, _⟩ := hb.at' 0 (Nat.pos_of_ne_zero h0); cases e
  cases va with
  | none =>
    obtain rfl : vn = 0 := hv0 rfl
    cases ba with
    | none =>
      obtain rfl : bn = 0 := hb0 rfl
      exact tot18_nn m vc bc T cut ps bs w
    | some baa => exact tot18_ns m vc baa bn bc T cut ps bs w hb hbl
  | some vaa =>
    cases ba with
    | none =>
      obtain rfl : bn = 0 := hb0 rfl
      exact tot18_sn m vaa vn vc bc T cut ps bs w hp hvl
    | some baa => exact tot18_ss m vaa vn vc baa bn bc T cut ps bs w hp hvl hb hbl

end Go.Proofs.Qxb6601324a
