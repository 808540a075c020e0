/-
  FnTallyCountsAsManyReflexive: the walk of the law.
-/
import Derived.Test.Qxb6601324aLawA
import Derived.Test.Qxb6601324aCam
namespace Go.Proofs.Qxb6601324a
open Go.RowKit
set_option linter.unusedSimpArgs false
set_option linter.unusedVariables false

theorem zz22' {A : Tal} {c0 : Array Value} {w : World} (h0 : TalIn w A c0) : Calls Try.prog 22 #[.agg c0] w (SomeBool w) := by
  obtain ⟨va, vc, ba, bc, rfl, hp, hb⟩ := h0
  exact zz22 A.m va A.vn vc ba A.bn bc A.T A.cut A.ps A.bs w hp hb
/-- A tally in a box, new since w. -/
structure S1b (w : World) (c0 : Array Value) (w' : World) : Prop where
  bel : Below w.heap.size w w'
  b0 : Bx w' w.heap.size 40 c0
theorem S1b.start (w : World) (c0 : Array Value) : S1b w c0 (w.alloc (.cells c0 40)) := ⟨below_box _ _, Bx.new _ _ _⟩
theorem S1b.below {w w' w'' : World} {c0 : Array Value} (h : S1b w c0 w') (hb : Below w'.heap.size w' w'') : S1b w c0 w'' := ⟨h.bel.trans (hb.mono h.bel.size), h.b0.below hb h.b0.lt⟩
def FitB (p : Prop) (w : World) (e : Ending) (w' : World) : Prop := (∃ b : Bool, e = .returned (.bool b) ∧ (b = true → p)) ∧ Below w.heap.size w w'
theorem fit23 {A : Tal} {c0 : Array Value} {w : World} (h0 : TalIn w A c0) : Calls Try.prog 23 #[.agg c0] w (FitB (Distinct A.ps A.vn) w) := by
  have S0 := S1b.start w c0
  have i0 := info40 h0.size
  have HT := tb32'' (h0.below S0.bel)
  go_enter Try.func23, Try.ntmps23
  go_wp2_with (refine wpList_load_box rfl 40 (.tmp 1) rfl w.heap.size rfl 40 c0 _ (S1b.b0 (by assumption)) Try.underlying40 rfl i0 ?_)
  refine HT.mono ?_
  rintro e w1 ⟨⟨n, hn0, hn1, rfl⟩, hb1⟩
  have S1 := S0.below hb1
  obtain ⟨va, vc, ba, bc, e0, hp, _⟩ := h0.below S1.bel
  have x1 : w1.cell? ⟨w.heap.size, 1, none⟩ = some (.slice va A.vn vc) := (cell_of_row _ _ 1 _ _ _ S1.b0).trans (by rw [e0]; rfl)
  clear e0 HT hb1 S0 h0 hn0 hn1
  by_cases hn : n ≤ 1048576
  · have HD := distinct38 va A.vn vc A.ps w1 hp
    go_wp2_with fail
    refine HD.mono ?_
    rintro e w2 ⟨⟨b, rfl, hiff⟩, hb2⟩
    have HI : Hid (b = true → Distinct A.ps A.vn) := hiff.1
    clear hiff HD
    go_wp2
    go_ret
    exact ⟨⟨_, rfl, HI.out⟩, (S1.below hb2).bel⟩
  · have hdn : decide (n ≤ 1048576) = false := decide_eq_false hn
    clear hn
    go_wp2
    go_ret
    exact ⟨⟨_, rfl, fun h => by cases h⟩, S1.bel⟩

structure S2d (w : World) (A : Tal) (n0 n1 : Nat) (d0 d1 : Array Value) (W : World) : Prop where
  bel : Below w.heap.size w W
  b0 : Bx W n0 46 d0
  b1 : Bx W n1 46 d1
  t0 : TalIn W A d0
  t1 : TalIn W A d1
theorem S2d.below {w W W' : World} {A : Tal} {n0 n1 : Nat} {d0 d1 : Array Value} (h : S2d w A n0 n1 d0 d1 W) (hb : Below W.heap.size W W') : S2d w A n0 n1 d0 d1 W' :=
  ⟨h.bel.trans (hb.mono h.bel.size), h.b0.below hb h.b0.lt, h.b1.below hb h.b1.lt, h.t0.below hb, h.t1.below hb⟩

set_option maxRecDepth 10000 in
set_option maxHeartbeats 4000000 in
theorem law7 (A : Tal) (c0 : Array Value) (w : World) (h0 : TalIn w A c0) : Calls Try.prog 7 #[.agg c0] w (RetTrue w) := by
  have S0 := S1b.start w c0
  have i0 := info40 h0.size
  have HZ := zz22' (h0.below S0.bel)
  go_enter Try.func7, Try.ntmps7
  go_wp2_with (refine wpList_load_box rfl 40 (.tmp 1) rfl w.heap.size rfl 40 c0 _ (S1b.b0 (by assumption)) Try.underlying40 rfl i0 ?_)
  refine HZ.mono ?_
  rintro e w1 ⟨⟨b, rfl⟩, hb1⟩
  have S1 := S0.below hb1
  clear hb1 S0 HZ
  cases b with
  | false =>
    go_wp2
    go_ret
    exact ⟨rfl, S1.bel⟩
  | true =>
  have k0 := h0.below S1.bel
  clear h0
  obtain ⟨va, vc, ba, bc, e0, _, _⟩ := id k0
  have x1 : w1.cell? ⟨w.heap.size, 1, none⟩ = some (.slice va A.vn vc) := (cell_of_row _ _ 1 _ _ _ S1.b0).trans (by rw [e0]; rfl)
  have x2 : w1.cell? ⟨w.heap.size, 2, none⟩ = some (.slice ba A.bn bc) := (cell_of_row _ _ 2 _ _ _ S1.b0).trans (by rw [e0]; rfl)
  clear e0
  by_cases l1 : 4096 < A.vn
  · go_wp2
    go_ret
    exact ⟨rfl, S1.bel⟩
  by_cases l2 : 4096 < A.bn
  · go_wp2
    go_ret
    exact ⟨rfl, S1.bel⟩
  have HF := fit23 k0
  go_wp2_with (refine wpList_load_box rfl 40 (.tmp 1) rfl w.heap.size rfl 40 c0 _ (S1b.b0 (by assumption)) Try.underlying40 rfl i0 ?_)
  refine HF.mono ?_
  rintro e w2 ⟨⟨b, rfl, hd⟩, hb2⟩
  have S2' := S1.below hb2
  have m0 := k0.below hb2
  have HD : Hid (b = true → Distinct A.ps A.vn) := hd
  clear hb2 S1 HF k0 x1 x2 hd
  cases b with
  | false =>
    go_wp2
    go_ret
    exact ⟨rfl, S2'.bel⟩
  | true =>
  have HDD : Hid (Distinct A.ps A.vn) := HD.out rfl
  clear HD
  have HT := tot18 A c0 w2 m0 (by omega) (by omega)
  go_wp2_with (refine wpList_load_box rfl 40 (.tmp 1) rfl w.heap.size rfl 40 c0 _ (S1b.b0 (by assumption)) Try.underlying40 rfl i0 ?_)
  refine HT.mono ?_
  rintro e w3 ⟨d0, rfl, q0, hb3⟩
  have j0 := info46 q0.size
  have o0 := q0.one
  have s0 := q0.size
  have S4' := (S2'.below hb3).below (below_box w3 (.cells d0 46))
  have B0 := Bx.new w3 46 d0
  have Q0 := q0.below (below_box w3 (.cells d0 46))
  have m0' := (m0.below hb3).below (below_box w3 (.cells d0 46))
  clear HT hb3 S2' m0 q0
  have HT := tot18 A c0 _ m0' (by omega) (by omega)
  go_wp2_with (first
      | (refine wpList_store_new rfl 46 (.tmp 3) (.tmp 22) rfl d0 rfl rfl 46 _ j0 (by rw [s0]; rfl) o0 ?_)
      | (refine wpList_load_box rfl 40 (.tmp 1) rfl w.heap.size rfl 40 c0 _ (S1b.b0 (by assumption)) Try.underlying40 rfl i0 ?_))
  refine HT.mono ?_
  rintro e w4 ⟨d1, rfl, q1, hb4⟩
  have j1 := info46 q1.size
  have o1 := q1.one
  have s1 := q1.size
  have R : S2d w A w3.heap.size w4.heap.size d0 d1 (w4.alloc (.cells d1 46)) :=
    ⟨((S4'.below hb4).below (below_box w4 _)).bel, (B0.below hb4 B0.lt).alloc _, Bx.new _ _ _, (Q0.below hb4).below (below_box w4 _), q1.below (below_box w4 _)⟩
  clear HT hb4 S4' m0' q1 B0 Q0 o0 s0
  have HC := (cam21 R.t0 R.t0).mono (fun e w' => SaysB.yes (CAM.refl HDD.out))
  go_wp2_with (first
      | (refine wpList_store_new rfl 46 (.tmp 4) (.tmp 24) rfl d1 rfl rfl 46 _ j1 (by rw [s1]; rfl) o1 ?_)
      | (first
      | (refine wpList_load_box rfl 46 (.tmp 3) rfl w3.heap.size rfl 46 d0 _ (S2d.b0 (by assumption)) Try.underlying46 rfl j0 ?_)
      | (refine wpList_load_box rfl 46 (.tmp 4) rfl w4.heap.size rfl 46 d1 _ (S2d.b1 (by assumption)) Try.underlying46 rfl j1 ?_)))
  refine HC.mono ?_
  rintro e w5 ⟨rfl, hb5⟩
  have R5 := R.below hb5
  clear HC hb5 R o1 s1
  have HC := (cam21 R5.t0 R5.t1).mono (fun e w' => SaysB.yes (CAM.refl HDD.out))
  go_wp2_with (first
      | (refine wpList_load_box rfl 46 (.tmp 3) rfl w3.heap.size rfl 46 d0 _ (S2d.b0 (by assumption)) Try.underlying46 rfl j0 ?_)
      | (refine wpList_load_box rfl 46 (.tmp 4) rfl w4.heap.size rfl 46 d1 _ (S2d.b1 (by assumption)) Try.underlying46 rfl j1 ?_))
  refine HC.mono ?_
  rintro e w6 ⟨rfl, hb6⟩
  have R6 := R5.below hb6
  clear HC hb6 R5
  have HC := (cam21 R6.t1 R6.t0).mono (fun e w' => SaysB.yes (CAM.refl HDD.out))
  go_wp2_with (first
      | (refine wpList_load_box rfl 46 (.tmp 3) rfl w3.heap.size rfl 46 d0 _ (S2d.b0 (by assumption)) Try.underlying46 rfl j0 ?_)
      | (refine wpList_load_box rfl 46 (.tmp 4) rfl w4.heap.size rfl 46 d1 _ (S2d.b1 (by assumption)) Try.underlying46 rfl j1 ?_))
  refine HC.mono ?_
  rintro e w7 ⟨rfl, hb7⟩
  have R7 := R6.below hb7
  clear HC hb7 R6
  go_wp2
  go_ret
  exact ⟨rfl, R7.bel⟩

end Go.Proofs.Qxb6601324a
