/-
  FnTallySameIsEquivalence: the walk of the law.
-/
import Derived.Test.Qxb6601324aGuards
import Derived.Test.Qxb6601324aGuards2
import Derived.Test.Qxb6601324aTot
import Derived.Test.Qxb6601324aSame
namespace Go.Proofs.Qxb6601324a
open Go.RowKit
set_option linter.unusedSimpArgs false
set_option linter.unusedVariables false

theorem wpList_load_box {P : Program} {ops : Array Oper} {rest : List Oper} {o : Oper} {a : Act} {w : World} {Q : Exit → Act → World → Prop} (hw : Region.wanted o (yielded ops a.tmps) = true) (ty : TypeId) (x : Operand) (ho : o.op = .load ty x)
    (g : Nat) (hx : a.eval x = .pointer (some ⟨g, 0, none⟩)) (t : TypeId) (cs : Array Value) (d : TypeDesc) (hg : Bx w g t cs)
    (hu : P.underlying ty = some d) (hd : (match d with | .struct _ | .array _ _ => true | _ => false) = true) (hi : (P.info? ty).map (·.size) = some cs.size)
    (h : wpList P ops Q rest (a.put o.dst (.agg cs)) w) : wpList P ops Q (o :: rest) a w := by
  unfold wpList
  rw [if_pos hw]
  exact .inl (wp_load_row ty x ho g hx t cs (0, 0) d hg hu hd hi h)
theorem wpList_store_new {P : Program} {ops : Array Oper} {rest : List Oper} {o : Oper} {a : Act} {w : World} {Q : Exit → Act → World → Prop} (hgd : o.guard = none) (ty : TypeId) (x y : Operand) (ho : o.op = .store ty x y)
    (cells : Array Value) (hx : a.eval x = .pointer (some ⟨w.heap.size, 0, none⟩)) (hy : a.eval y = .agg cells)
    (t : TypeId) (old : Array Value) (hi : (P.info? ty).map (·.size) = some cells.size)
    (hold : old.size = cells.size) (h1 : cells.all (·.oneCell') = true)
    (h : wpList P ops Q rest (a.put o.dst undef) (w.alloc (.cells cells t))) : wpList P ops Q (o :: rest) a (w.alloc (.cells old t)) := by
  refine wpList_store_row hgd ty x y ho w.heap.size cells hx hy t old (heap_alloc_new _ _) hi hold h1 ?_
  rw [World.setRow_alloc_new]
  exact h

theorem zz16' {A B C : Tal} {c0 c1 c2 : Array Value} {w : World} (h0 : TalIn w A c0) (h1 : TalIn w B c1) (h2 : TalIn w C c2) : Calls Try.prog 16 #[.agg c0, .agg c1, .agg c2] w (SomeBool w) := by
  obtain ⟨va, vc, ba, bc, rfl, hp, hb⟩ := h0
  obtain ⟨va1, vc1, ba1, bc1, rfl, hp1, hb1⟩ := h1
  obtain ⟨va2, vc2, ba2, bc2, rfl, hp2, hb2⟩ := h2
  exact zz16 A.m va A.vn vc ba A.bn bc A.T A.cut A.ps A.bs B.m va1 B.vn vc1 ba1 B.bn bc1 B.T B.cut B.ps B.bs C.m va2 C.vn vc2 ba2 C.bn bc2 C.T C.cut C.ps C.bs w hp hb hp1 hb1 hp2 hb2
theorem tb32'' {A : Tal} {c0 : Array Value} {w : World} (h0 : TalIn w A c0) : Calls Try.prog 32 #[.agg c0] w (SomeInt w) := by
  obtain ⟨va, vc, ba, bc, rfl, hp, hb⟩ := h0
  exact tb32 A.m va A.vn vc ba A.bn bc A.T A.cut A.ps A.bs w hp hb
theorem fit17' {A B C : Tal} {c0 c1 c2 : Array Value} {w : World} (h0 : TalIn w A c0) (h1 : TalIn w B c1) (h2 : TalIn w C c2) : Calls Try.prog 17 #[.agg c0, .agg c1, .agg c2] w (SomeBool w) :=
  fit17 c0 c1 c2 h0.size h1.size h2.size w (fun w' hb => tb32'' (h0.below hb)) (fun w' hb => tb32'' (h1.below hb)) (fun w' hb => tb32'' (h2.below hb))

theorem same19 {A B : Tal} {c0 c1 : Array Value} {w : World} (h : TalIn w A c0) (h' : TalIn w B c1) : Calls Try.prog 19 #[.agg c0, .agg c1] w (SaysB (SameT A B) w) := by
  have S0 := S2.start w c0 c1
  have i0 := info46 h.size
  have i1 := info46 h'.size
  obtain ⟨va, vc, ba, bc, ht⟩ := h.below S0.bel
  obtain ⟨va1, vc1, ba1, bc1, ht'⟩ := h'.below S0.bel
  have HC := same36 A B va ba va1 ba1 vc bc vc1 bc1 c0 c1 _ ht ht'
  clear ht ht' h h'
  go_enter Try.func19, Try.ntmps19
  go_wp2_with (first
    | (refine wpList_load_row rfl 46 (.tmp 2) rfl w.heap.size rfl 46 c0 (0, 0) _ S0.b0 Try.underlying46 rfl i0 ?_)
    | (refine wpList_load_row rfl 46 (.tmp 3) rfl (w.heap.size + 1) rfl 46 c1 (0, 0) _ S0.b1 Try.underlying46 rfl i1 ?_)
    | (go_at_call 36; go_loud (refine HC.mono ?_; rintro e w1 ⟨⟨b, rfl, hiff⟩, hb1⟩; have HI : Hid (b = true ↔ SameT A B) := hiff; clear hiff)))
  go_ret
  exact ⟨⟨_, rfl, HI.out⟩, (S0.below hb1).bel⟩

/-- Four tallies of the project's in four boxes. -/
structure S4 (w : World) (A B C : Tal) (n0 n1 n2 n3 : Nat) (d0 d1 d2 d3 : Array Value) (W : World) : Prop where
  bel : Below w.heap.size w W
  b0 : Bx W n0 46 d0
  b1 : Bx W n1 46 d1
  b2 : Bx W n2 46 d2
  b3 : Bx W n3 46 d3
  t0 : TalIn W A d0
  t1 : TalIn W A d1
  t2 : TalIn W B d2
  t3 : TalIn W C d3
theorem S4.below {w W W' : World} {A B C : Tal} {n0 n1 n2 n3 : Nat} {d0 d1 d2 d3 : Array Value} (h : S4 w A B C n0 n1 n2 n3 d0 d1 d2 d3 W) (hb : Below W.heap.size W W') : S4 w A B C n0 n1 n2 n3 d0 d1 d2 d3 W' :=
  ⟨h.bel.trans (hb.mono h.bel.size), h.b0.below hb h.b0.lt, h.b1.below hb h.b1.lt, h.b2.below hb h.b2.lt, h.b3.below hb h.b3.lt, h.t0.below hb, h.t1.below hb, h.t2.below hb, h.t3.below hb⟩
theorem SameT.refl (A : Tal) : SameT A A := ⟨rfl, rfl, rfl, fun _ _ => rfl, rfl, rfl, fun _ _ => rfl⟩
theorem SameT.symm {A B : Tal} (h : SameT A B) : SameT B A := by
  obtain ⟨h1, h2, h3, h4, h5, h6, h7⟩ := h
  exact ⟨h1.symm, h2.symm, h3.symm, fun k hk => (h4 k (by omega)).symm, h5.symm, h6.symm, fun k hk => (h7 k (by omega)).symm⟩
theorem SameT.trans {A B C : Tal} (h : SameT A B) (k : SameT B C) : SameT A C := by
  obtain ⟨h1, h2, h3, h4, h5, h6, h7⟩ := h
  obtain ⟨k1, k2, k3, k4, k5, k6, k7⟩ := k
  exact ⟨h1.trans k1, h2.trans k2, h3.trans k3, fun j hj => (h4 j hj).trans (k4 j (by omega)), h5.trans k5, h6.trans k6, fun j hj => (h7 j hj).trans (k7 j (by omega))⟩
def RetTrue (w : World) (e : Ending) (w' : World) : Prop := e = .returned (.bool true) ∧ Below w.heap.size w w'

set_option maxRecDepth 10000 in
set_option maxHeartbeats 4000000 in
theorem law5 (A B C : Tal) (c0 c1 c2 : Array Value) (w : World) (h0 : TalIn w A c0) (h1 : TalIn w B c1) (h2 : TalIn w C c2) :
    Calls Try.prog 5 #[.agg c0, .agg c1, .agg c2] w (RetTrue w) := by
  have S0 := S3.start w c0 c1 c2
  have i0 := info40 h0.size
  have i1 := info40 h1.size
  have i2 := info40 h2.size
  have HZ := zz16' (h0.below S0.bel) (h1.below S0.bel) (h2.below S0.bel)
  go_enter Try.func5, Try.ntmps5
  go_wp2_with (first
      | (refine wpList_load_box rfl 40 (.tmp 3) rfl w.heap.size rfl 40 c0 _ S0.b0 Try.underlying40 rfl i0 ?_)
      | (refine wpList_load_box rfl 40 (.tmp 4) rfl (w.heap.size + 1) rfl 40 c1 _ S0.b1 Try.underlying40 rfl i1 ?_)
      | (refine wpList_load_box rfl 40 (.tmp 5) rfl (w.heap.size + 2) rfl 40 c2 _ S0.b2 Try.underlying40 rfl i2 ?_))
  refine HZ.mono ?_
  rintro e w1 ⟨⟨b, rfl⟩, hb1⟩
  have S1 := S0.below hb1
  clear hb1 S0 HZ
  cases b with
  | false =>
    go_wp2
    go_ret
    exact ⟨rfl, S1.bel⟩
  | true =>
  have k0 := h0.below S1.bel
  have k1 := h1.below S1.bel
  have k2 := h2.below S1.bel
  clear h0 h1 h2
  obtain ⟨va, vc, ba, bc, e0, _, _⟩ := id k0
  obtain ⟨va1, vc1, ba1, bc1, e1, _, _⟩ := id k1
  obtain ⟨va2, vc2, ba2, bc2, e2, _, _⟩ := id k2
  have x1 : w1.cell? ⟨w.heap.size, 1, none⟩ = some (.slice va A.vn vc) := (cell_of_row _ _ 1 _ _ _ S1.b0).trans (by rw [e0]; rfl)
  have x2 : w1.cell? ⟨w.heap.size, 2, none⟩ = some (.slice ba A.bn bc) := (cell_of_row _ _ 2 _ _ _ S1.b0).trans (by rw [e0]; rfl)
  have y1 : w1.cell? ⟨w.heap.size + 1, 1, none⟩ = some (.slice va1 B.vn vc1) := (cell_of_row _ _ 1 _ _ _ S1.b1).trans (by rw [e1]; rfl)
  have y2 : w1.cell? ⟨w.heap.size + 1, 2, none⟩ = some (.slice ba1 B.bn bc1) := (cell_of_row _ _ 2 _ _ _ S1.b1).trans (by rw [e1]; rfl)
  have z1 : w1.cell? ⟨w.heap.size + 2, 1, none⟩ = some (.slice va2 C.vn vc2) := (cell_of_row _ _ 1 _ _ _ S1.b2).trans (by rw [e2]; rfl)
  have z2 : w1.cell? ⟨w.heap.size + 2, 2, none⟩ = some (.slice ba2 C.bn bc2) := (cell_of_row _ _ 2 _ _ _ S1.b2).trans (by rw [e2]; rfl)
  clear e0 e1 e2
  by_cases l1 : 4096 < A.vn
  · go_wp2
    go_ret
    exact ⟨rfl, S1.bel⟩
  by_cases l2 : 4096 < A.bn
  · go_wp2
    go_ret
    exact ⟨rfl, S1.bel⟩
  by_cases l3 : 4096 < B.vn
  · go_wp2
    go_ret
    exact ⟨rfl, S1.bel⟩
  by_cases l4 : 4096 < B.bn
  · go_wp2
    go_ret
    exact ⟨rfl, S1.bel⟩
  by_cases l5 : 4096 < C.vn
  · go_wp2
    go_ret
    exact ⟨rfl, S1.bel⟩
  by_cases l6 : 4096 < C.bn
  · go_wp2
    go_ret
    exact ⟨rfl, S1.bel⟩
  have HF := fit17' k0 k1 k2
  go_wp2_with (first
      | (refine wpList_load_box rfl 40 (.tmp 3) rfl w.heap.size rfl 40 c0 _ (S3.b0 (by assumption)) Try.underlying40 rfl i0 ?_)
      | (refine wpList_load_box rfl 40 (.tmp 4) rfl (w.heap.size + 1) rfl 40 c1 _ (S3.b1 (by assumption)) Try.underlying40 rfl i1 ?_)
      | (refine wpList_load_box rfl 40 (.tmp 5) rfl (w.heap.size + 2) rfl 40 c2 _ (S3.b2 (by assumption)) Try.underlying40 rfl i2 ?_))
  refine HF.mono ?_
  rintro e w2 ⟨⟨b, rfl⟩, hb2⟩
  have S2' := S1.below hb2
  have m0 := k0.below hb2
  have m1 := k1.below hb2
  have m2 := k2.below hb2
  clear hb2 S1 HF k0 k1 k2 x1 x2 y1 y2 z1 z2
  cases b with
  | false =>
    go_wp2
    go_ret
    exact ⟨rfl, S2'.bel⟩
  | true =>
  -- the first copy of a
  have HT := tot18 A c0 w2 m0 (by omega) (by omega)
  go_wp2_with (first
      | (refine wpList_load_box rfl 40 (.tmp 3) rfl w.heap.size rfl 40 c0 _ (S3.b0 (by assumption)) Try.underlying40 rfl i0 ?_)
      | (refine wpList_load_box rfl 40 (.tmp 4) rfl (w.heap.size + 1) rfl 40 c1 _ (S3.b1 (by assumption)) Try.underlying40 rfl i1 ?_)
      | (refine wpList_load_box rfl 40 (.tmp 5) rfl (w.heap.size + 2) rfl 40 c2 _ (S3.b2 (by assumption)) Try.underlying40 rfl i2 ?_))
  refine HT.mono ?_
  rintro e w3 ⟨d0, rfl, q0, hb3⟩
  have j0 := info46 q0.size
  have o0 := q0.one
  have s0 := q0.size
  have hbx := hb3.trans ((below_box w3 (.cells d0 46)).mono hb3.size)
  have S3' := S2'.below hb3
  have S4' := S3'.below (below_box w3 (.cells d0 46))
  have B0 := Bx.new w3 46 d0
  have Q0 := q0.below (below_box w3 (.cells d0 46))
  have m0' := (m0.below hb3).below (below_box w3 (.cells d0 46))
  have m1' := (m1.below hb3).below (below_box w3 (.cells d0 46))
  have m2' := (m2.below hb3).below (below_box w3 (.cells d0 46))
  clear HT hb3 hbx S2' m0 m1 m2 S3' q0
  -- the second
  have HT := tot18 A c0 _ m0' (by omega) (by omega)
  go_wp2_with (first
      | (refine wpList_store_new rfl 46 (.tmp 7) (.tmp 60) rfl d0 rfl rfl 46 _ j0 (by rw [s0]; rfl) o0 ?_)
      | (first
      | (refine wpList_load_box rfl 40 (.tmp 3) rfl w.heap.size rfl 40 c0 _ (S3.b0 (by assumption)) Try.underlying40 rfl i0 ?_)
      | (refine wpList_load_box rfl 40 (.tmp 4) rfl (w.heap.size + 1) rfl 40 c1 _ (S3.b1 (by assumption)) Try.underlying40 rfl i1 ?_)
      | (refine wpList_load_box rfl 40 (.tmp 5) rfl (w.heap.size + 2) rfl 40 c2 _ (S3.b2 (by assumption)) Try.underlying40 rfl i2 ?_)))
  refine HT.mono ?_
  rintro e w4 ⟨d1, rfl, q1, hb4⟩
  have j1 := info46 q1.size
  have o1 := q1.one
  have s1 := q1.size
  have S5' := (S4'.below hb4).below (below_box w4 (.cells d1 46))
  have B0' := (B0.below hb4 B0.lt).alloc (.cells d1 46)
  have Q0' := (Q0.below hb4).below (below_box w4 (.cells d1 46))
  have B1 := Bx.new w4 46 d1
  have Q1 := q1.below (below_box w4 (.cells d1 46))
  have n1' := (m1'.below hb4).below (below_box w4 (.cells d1 46))
  have n2' := (m2'.below hb4).below (below_box w4 (.cells d1 46))
  clear HT hb4 S4' m0' m1' m2' q1 B0 Q0 j0 o0 s0
  -- b's
  have HT := tot18 B c1 _ n1' (by omega) (by omega)
  go_wp2_with (first
      | (refine wpList_store_new rfl 46 (.tmp 8) (.tmp 62) rfl d1 rfl rfl 46 _ j1 (by rw [s1]; rfl) o1 ?_)
      | (first
      | (refine wpList_load_box rfl 40 (.tmp 3) rfl w.heap.size rfl 40 c0 _ (S3.b0 (by assumption)) Try.underlying40 rfl i0 ?_)
      | (refine wpList_load_box rfl 40 (.tmp 4) rfl (w.heap.size + 1) rfl 40 c1 _ (S3.b1 (by assumption)) Try.underlying40 rfl i1 ?_)
      | (refine wpList_load_box rfl 40 (.tmp 5) rfl (w.heap.size + 2) rfl 40 c2 _ (S3.b2 (by assumption)) Try.underlying40 rfl i2 ?_)))
  refine HT.mono ?_
  rintro e w5 ⟨d2, rfl, q2, hb5⟩
  have j2 := info46 q2.size
  have o2 := q2.one
  have s2 := q2.size
  have S6' := (S5'.below hb5).below (below_box w5 (.cells d2 46))
  have B0 := (B0'.below hb5 B0'.lt).alloc (.cells d2 46)
  have Q0 := (Q0'.below hb5).below (below_box w5 (.cells d2 46))
  have B1' := (B1.below hb5 B1.lt).alloc (.cells d2 46)
  have Q1' := (Q1.below hb5).below (below_box w5 (.cells d2 46))
  have B2 := Bx.new w5 46 d2
  have Q2 := q2.below (below_box w5 (.cells d2 46))
  have p2' := (n2'.below hb5).below (below_box w5 (.cells d2 46))
  clear HT hb5 S5' n1' n2' q2 B0' Q0' B1 Q1 j1 o1 s1
  -- c's
  have HT := tot18 C c2 _ p2' (by omega) (by omega)
  go_wp2_with (first
      | (refine wpList_store_new rfl 46 (.tmp 9) (.tmp 64) rfl d2 rfl rfl 46 _ j2 (by rw [s2]; rfl) o2 ?_)
      | (first
      | (refine wpList_load_box rfl 40 (.tmp 3) rfl w.heap.size rfl 40 c0 _ (S3.b0 (by assumption)) Try.underlying40 rfl i0 ?_)
      | (refine wpList_load_box rfl 40 (.tmp 4) rfl (w.heap.size + 1) rfl 40 c1 _ (S3.b1 (by assumption)) Try.underlying40 rfl i1 ?_)
      | (refine wpList_load_box rfl 40 (.tmp 5) rfl (w.heap.size + 2) rfl 40 c2 _ (S3.b2 (by assumption)) Try.underlying40 rfl i2 ?_)))
  refine HT.mono ?_
  rintro e w6 ⟨d3, rfl, q3, hb6⟩
  have j3 := info46 q3.size
  have o3 := q3.one
  have s3 := q3.size
  have R : S4 w A B C w3.heap.size w4.heap.size w5.heap.size w6.heap.size d0 d1 d2 d3 (w6.alloc (.cells d3 46)) :=
    ⟨((S6'.below hb6).below (below_box w6 (.cells d3 46))).bel, (B0.below hb6 B0.lt).alloc _, (B1'.below hb6 B1'.lt).alloc _, (B2.below hb6 B2.lt).alloc _, Bx.new _ _ _, (Q0.below hb6).below (below_box w6 _), (Q1'.below hb6).below (below_box w6 _), (Q2.below hb6).below (below_box w6 _), q3.below (below_box w6 _)⟩
  have j0 := info46 R.t0.size
  have j1 := info46 R.t1.size
  clear HT hb6 S6' p2' q3 B0 Q0 B1' Q1' B2 Q2 j2 o2 s2 i0 i1 i2
  have j2 := info46 R.t2.size
  have HC := (same19 R.t0 R.t0).mono (fun e w' => SaysB.yes (SameT.refl A))
  go_wp2_with (first
      | (refine wpList_store_new rfl 46 (.tmp 10) (.tmp 66) rfl d3 rfl rfl 46 _ j3 (by rw [s3]; rfl) o3 ?_)
      | (first
      | (refine wpList_load_box rfl 46 (.tmp 7) rfl w3.heap.size rfl 46 d0 _ (S4.b0 (by assumption)) Try.underlying46 rfl j0 ?_)
      | (refine wpList_load_box rfl 46 (.tmp 8) rfl w4.heap.size rfl 46 d1 _ (S4.b1 (by assumption)) Try.underlying46 rfl j1 ?_)
      | (refine wpList_load_box rfl 46 (.tmp 9) rfl w5.heap.size rfl 46 d2 _ (S4.b2 (by assumption)) Try.underlying46 rfl j2 ?_)
      | (refine wpList_load_box rfl 46 (.tmp 10) rfl w6.heap.size rfl 46 d3 _ (S4.b3 (by assumption)) Try.underlying46 rfl j3 ?_)))
  refine HC.mono ?_
  rintro e w7 ⟨rfl, hb7⟩
  have R7 := R.below hb7
  clear HC hb7 R o3 s3
  have HC := (same19 R7.t0 R7.t1).mono (fun e w' => SaysB.yes (SameT.refl A))
  go_wp2_with (first
      | (refine wpList_load_box rfl 46 (.tmp 7) rfl w3.heap.size rfl 46 d0 _ (S4.b0 (by assumption)) Try.underlying46 rfl j0 ?_)
      | (refine wpList_load_box rfl 46 (.tmp 8) rfl w4.heap.size rfl 46 d1 _ (S4.b1 (by assumption)) Try.underlying46 rfl j1 ?_)
      | (refine wpList_load_box rfl 46 (.tmp 9) rfl w5.heap.size rfl 46 d2 _ (S4.b2 (by assumption)) Try.underlying46 rfl j2 ?_)
      | (refine wpList_load_box rfl 46 (.tmp 10) rfl w6.heap.size rfl 46 d3 _ (S4.b3 (by assumption)) Try.underlying46 rfl j3 ?_))
  refine HC.mono ?_
  rintro e w8 ⟨rfl, hb8⟩
  have R8 := R7.below hb8
  clear HC hb8 R7
  by_cases hAB : SameT A B
  · have HAB : Hid (SameT A B) := hAB
    clear hAB
    have HC := (same19 R8.t0 R8.t2).mono (fun e w' => SaysB.yes HAB.out)
    go_wp2_with (first
      | (refine wpList_load_box rfl 46 (.tmp 7) rfl w3.heap.size rfl 46 d0 _ (S4.b0 (by assumption)) Try.underlying46 rfl j0 ?_)
      | (refine wpList_load_box rfl 46 (.tmp 8) rfl w4.heap.size rfl 46 d1 _ (S4.b1 (by assumption)) Try.underlying46 rfl j1 ?_)
      | (refine wpList_load_box rfl 46 (.tmp 9) rfl w5.heap.size rfl 46 d2 _ (S4.b2 (by assumption)) Try.underlying46 rfl j2 ?_)
      | (refine wpList_load_box rfl 46 (.tmp 10) rfl w6.heap.size rfl 46 d3 _ (S4.b3 (by assumption)) Try.underlying46 rfl j3 ?_))
    refine HC.mono ?_
    rintro e w9 ⟨rfl, hb9⟩
    have R9 := R8.below hb9
    clear HC hb9 R8
    have HC := (same19 R9.t2 R9.t0).mono (fun e w' => SaysB.yes HAB.out.symm)
    go_wp2_with (first
      | (refine wpList_load_box rfl 46 (.tmp 7) rfl w3.heap.size rfl 46 d0 _ (S4.b0 (by assumption)) Try.underlying46 rfl j0 ?_)
      | (refine wpList_load_box rfl 46 (.tmp 8) rfl w4.heap.size rfl 46 d1 _ (S4.b1 (by assumption)) Try.underlying46 rfl j1 ?_)
      | (refine wpList_load_box rfl 46 (.tmp 9) rfl w5.heap.size rfl 46 d2 _ (S4.b2 (by assumption)) Try.underlying46 rfl j2 ?_)
      | (refine wpList_load_box rfl 46 (.tmp 10) rfl w6.heap.size rfl 46 d3 _ (S4.b3 (by assumption)) Try.underlying46 rfl j3 ?_))
    refine HC.mono ?_
    rintro e w10 ⟨rfl, hb10⟩
    have R10 := R9.below hb10
    clear HC hb10 R9
    by_cases hBC : SameT B C
    · have HBC : Hid (SameT B C) := hBC
      clear hBC
      have HC := (same19 R10.t2 R10.t3).mono (fun e w' => SaysB.yes HBC.out)
      go_wp2_with (first
      | (refine wpList_load_box rfl 46 (.tmp 7) rfl w3.heap.size rfl 46 d0 _ (S4.b0 (by assumption)) Try.underlying46 rfl j0 ?_)
      | (refine wpList_load_box rfl 46 (.tmp 8) rfl w4.heap.size rfl 46 d1 _ (S4.b1 (by assumption)) Try.underlying46 rfl j1 ?_)
      | (refine wpList_load_box rfl 46 (.tmp 9) rfl w5.heap.size rfl 46 d2 _ (S4.b2 (by assumption)) Try.underlying46 rfl j2 ?_)
      | (refine wpList_load_box rfl 46 (.tmp 10) rfl w6.heap.size rfl 46 d3 _ (S4.b3 (by assumption)) Try.underlying46 rfl j3 ?_))
      refine HC.mono ?_
      rintro e w11 ⟨rfl, hb11⟩
      have R11 := R10.below hb11
      clear HC hb11 R10
      have HC := (same19 R11.t0 R11.t3).mono (fun e w' => SaysB.yes (HAB.out.trans HBC.out))
      go_wp2_with (first
      | (refine wpList_load_box rfl 46 (.tmp 7) rfl w3.heap.size rfl 46 d0 _ (S4.b0 (by assumption)) Try.underlying46 rfl j0 ?_)
      | (refine wpList_load_box rfl 46 (.tmp 8) rfl w4.heap.size rfl 46 d1 _ (S4.b1 (by assumption)) Try.underlying46 rfl j1 ?_)
      | (refine wpList_load_box rfl 46 (.tmp 9) rfl w5.heap.size rfl 46 d2 _ (S4.b2 (by assumption)) Try.underlying46 rfl j2 ?_)
      | (refine wpList_load_box rfl 46 (.tmp 10) rfl w6.heap.size rfl 46 d3 _ (S4.b3 (by assumption)) Try.underlying46 rfl j3 ?_))
      refine HC.mono ?_
      rintro e w12 ⟨rfl, hb12⟩
      have R12 := R11.below hb12
      clear HC hb12 R11
      go_wp2
      go_ret
      exact ⟨rfl, R12.bel⟩
    · have HBC : Hid (¬ SameT B C) := hBC
      clear hBC
      have HC := (same19 R10.t2 R10.t3).mono (fun e w' => SaysB.no HBC.out)
      go_wp2_with (first
      | (refine wpList_load_box rfl 46 (.tmp 7) rfl w3.heap.size rfl 46 d0 _ (S4.b0 (by assumption)) Try.underlying46 rfl j0 ?_)
      | (refine wpList_load_box rfl 46 (.tmp 8) rfl w4.heap.size rfl 46 d1 _ (S4.b1 (by assumption)) Try.underlying46 rfl j1 ?_)
      | (refine wpList_load_box rfl 46 (.tmp 9) rfl w5.heap.size rfl 46 d2 _ (S4.b2 (by assumption)) Try.underlying46 rfl j2 ?_)
      | (refine wpList_load_box rfl 46 (.tmp 10) rfl w6.heap.size rfl 46 d3 _ (S4.b3 (by assumption)) Try.underlying46 rfl j3 ?_))
      refine HC.mono ?_
      rintro e w11 ⟨rfl, hb11⟩
      have R11 := R10.below hb11
      clear HC hb11 R10
      go_wp2
      go_ret
      exact ⟨rfl, R11.bel⟩
  · have HAB : Hid (¬ SameT A B) := hAB
    clear hAB
    have HC := (same19 R8.t0 R8.t2).mono (fun e w' => SaysB.no HAB.out)
    go_wp2_with (first
      | (refine wpList_load_box rfl 46 (.tmp 7) rfl w3.heap.size rfl 46 d0 _ (S4.b0 (by assumption)) Try.underlying46 rfl j0 ?_)
      | (refine wpList_load_box rfl 46 (.tmp 8) rfl w4.heap.size rfl 46 d1 _ (S4.b1 (by assumption)) Try.underlying46 rfl j1 ?_)
      | (refine wpList_load_box rfl 46 (.tmp 9) rfl w5.heap.size rfl 46 d2 _ (S4.b2 (by assumption)) Try.underlying46 rfl j2 ?_)
      | (refine wpList_load_box rfl 46 (.tmp 10) rfl w6.heap.size rfl 46 d3 _ (S4.b3 (by assumption)) Try.underlying46 rfl j3 ?_))
    refine HC.mono ?_
    rintro e w9 ⟨rfl, hb9⟩
    have R9 := R8.below hb9
    clear HC hb9 R8
    have HC := (same19 R9.t2 R9.t0).mono (fun e w' => SaysB.no (fun h => HAB.out h.symm))
    go_wp2_with (first
      | (refine wpList_load_box rfl 46 (.tmp 7) rfl w3.heap.size rfl 46 d0 _ (S4.b0 (by assumption)) Try.underlying46 rfl j0 ?_)
      | (refine wpList_load_box rfl 46 (.tmp 8) rfl w4.heap.size rfl 46 d1 _ (S4.b1 (by assumption)) Try.underlying46 rfl j1 ?_)
      | (refine wpList_load_box rfl 46 (.tmp 9) rfl w5.heap.size rfl 46 d2 _ (S4.b2 (by assumption)) Try.underlying46 rfl j2 ?_)
      | (refine wpList_load_box rfl 46 (.tmp 10) rfl w6.heap.size rfl 46 d3 _ (S4.b3 (by assumption)) Try.underlying46 rfl j3 ?_))
    refine HC.mono ?_
    rintro e w10 ⟨rfl, hb10⟩
    have R10 := R9.below hb10
    clear HC hb10 R9
    go_wp2
    go_ret
    exact ⟨rfl, R10.bel⟩

end Go.Proofs.Qxb6601324a
