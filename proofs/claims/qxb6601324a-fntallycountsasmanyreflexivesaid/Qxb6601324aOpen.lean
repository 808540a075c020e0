/-
  What an argument that is a tally reads as, said of cells.
-/
import Derived.Test.Qxb6601324aMakers
import Derived.ProofKit
import Derived.OpenShut
import Derived.ChangeOld
import Derived.Deep.Slices
namespace Go.Proofs.Qxb6601324a
open Go.ChangeShapes Go.WideShapes Go.ChangeAt Go.RowKit Go.Deep
set_option linter.unusedSimpArgs false
set_option linter.unusedVariables false
theorem Try.cells9 : Try.prog.cellsOf 9 = 1 := by kernel_rfl
theorem Try.cells5 : Try.prog.cellsOf 5 = 1 := by kernel_rfl
theorem Try.cells33 : Try.prog.cellsOf 33 = 1 := by kernel_rfl
theorem Try.cells2 : Try.prog.cellsOf 2 = 1 := by kernel_rfl
theorem Try.cells4 : Try.prog.cellsOf 4 = 1 := by kernel_rfl
theorem Try.cells36 : Try.prog.cellsOf 36 = 1 := by kernel_rfl
theorem Try.cells37 : Try.prog.cellsOf 37 = 1 := by kernel_rfl
theorem Try.cells38 : Try.prog.cellsOf 38 = 16 := by kernel_rfl
theorem Try.cells40 : Try.prog.cellsOf 40 = 20 := by kernel_rfl
theorem Try.cells68 : Try.prog.cellsOf 68 = 7 := by kernel_rfl
theorem Try.cells70 : Try.prog.cellsOf 70 = 6 := by kernel_rfl
theorem list5 {α : Type} {l : List α} (h : l.length = 5) : ∃ a b c d e, l = [a, b, c, d, e] := by
  match l, h with
  | [a, b, c, d, e], _ => exact ⟨a, b, c, d, e, rfl⟩
theorem list6 {α : Type} {l : List α} (h : l.length = 6) : ∃ a b c d e f, l = [a, b, c, d, e, f] := by
  match l, h with
  | [a, b, c, d, e, f], _ => exact ⟨a, b, c, d, e, f, rfl⟩
theorem list7 {α : Type} {l : List α} (h : l.length = 7) : ∃ a b c d e f g, l = [a, b, c, d, e, f, g] := by
  match l, h with
  | [a, b, c, d, e, f, g], _ => exact ⟨a, b, c, d, e, f, g, rfl⟩
section
variable {H : Type} {enc : TypeId × Value → H} {w : World} {base : Nat} {spare : Nat → Bool} {held : Bool}

theorem open68 {n : Nat} {cs : List Value} {x : DataW H × List MemPlace} (h : DataW.trod enc Try.prog w base spare held n 68 cs = some x) : ∃ p : Par, cs = p.cells := by
  obtain ⟨xs, k, hk, hxy, hl, hxl, hf⟩ := DataW.trod_struct Try.underlying68 h
  have hl' : cs.length = 7 := hl.trans (by kernel_rfl)
  have hxl' : xs.length = 7 := hxl
  clear hk hxy hl hxl h
  obtain ⟨y0, y1, y2, y3, y4, y5, y6, rfl⟩ := list7 hxl'
  obtain ⟨v0, v1, v2, v3, v4, v5, v6, rfl⟩ := list7 hl'
  have g0 := hf 0 _ rfl
  simp [Try.cells9] at g0
  obtain ⟨s0, e0, _, _⟩ := DataW.trod_string Try.underlying9 g0
  simp only [List.cons.injEq, and_true] at e0
  have g1 := hf 1 _ rfl
  simp [Try.cells5] at g1
  obtain ⟨s1, e1, _, _⟩ := DataW.trod_int Try.underlying5 g1
  simp only [List.cons.injEq, and_true] at e1
  have g2 := hf 2 _ rfl
  simp [Try.cells9] at g2
  obtain ⟨s2, e2, _, _⟩ := DataW.trod_string Try.underlying9 g2
  simp only [List.cons.injEq, and_true] at e2
  have g3 := hf 3 _ rfl
  simp [Try.cells33] at g3
  obtain ⟨s3, e3, _, _⟩ := DataW.trod_int Try.underlying33 g3
  simp only [List.cons.injEq, and_true] at e3
  have g4 := hf 4 _ rfl
  simp [Try.cells33] at g4
  obtain ⟨s4, e4, _, _⟩ := DataW.trod_int Try.underlying33 g4
  simp only [List.cons.injEq, and_true] at e4
  have g5 := hf 5 _ rfl
  simp [Try.cells2] at g5
  obtain ⟨s5, e5, _, _⟩ := DataW.trod_int Try.underlying2 g5
  simp only [List.cons.injEq, and_true] at e5
  have g6 := hf 6 _ rfl
  simp [Try.cells33] at g6
  obtain ⟨s6, e6, _, _⟩ := DataW.trod_int Try.underlying33 g6
  simp only [List.cons.injEq, and_true] at e6
  exact ⟨⟨s0, s1, s2, s3, s4, s5, s6⟩, by rw [e0, e1, e2, e3, e4, e5, e6]; rfl⟩

theorem open70 {n : Nat} {cs : List Value} {x : DataW H × List MemPlace} (h : DataW.trod enc Try.prog w base spare held n 70 cs = some x) : ∃ p : Bnd, cs = p.cells := by
  obtain ⟨xs, k, hk, hxy, hl, hxl, hf⟩ := DataW.trod_struct Try.underlying70 h
  have hl' : cs.length = 6 := hl.trans (by kernel_rfl)
  have hxl' : xs.length = 6 := hxl
  clear hk hxy hl hxl h
  obtain ⟨y0, y1, y2, y3, y4, y5, rfl⟩ := list6 hxl'
  obtain ⟨v0, v1, v2, v3, v4, v5, rfl⟩ := list6 hl'
  have g0 := hf 0 _ rfl
  simp [Try.cells9] at g0
  obtain ⟨s0, e0, _, _⟩ := DataW.trod_string Try.underlying9 g0
  simp only [List.cons.injEq, and_true] at e0
  have g1 := hf 1 _ rfl
  simp [Try.cells33] at g1
  obtain ⟨s1, e1, _, _⟩ := DataW.trod_int Try.underlying33 g1
  simp only [List.cons.injEq, and_true] at e1
  have g2 := hf 2 _ rfl
  simp [Try.cells2] at g2
  obtain ⟨s2, e2, _, _⟩ := DataW.trod_int Try.underlying2 g2
  simp only [List.cons.injEq, and_true] at e2
  have g3 := hf 3 _ rfl
  simp [Try.cells33] at g3
  obtain ⟨s3, e3, _, _⟩ := DataW.trod_int Try.underlying33 g3
  simp only [List.cons.injEq, and_true] at e3
  have g4 := hf 4 _ rfl
  simp [Try.cells2] at g4
  obtain ⟨s4, e4, _, _⟩ := DataW.trod_int Try.underlying2 g4
  simp only [List.cons.injEq, and_true] at e4
  have g5 := hf 5 _ rfl
  simp [Try.cells33] at g5
  obtain ⟨s5, e5, _, _⟩ := DataW.trod_int Try.underlying33 g5
  simp only [List.cons.injEq, and_true] at e5
  exact ⟨⟨s0, s1, s2, s3, s4, s5⟩, by rw [e0, e1, e2, e3, e4, e5]; rfl⟩

theorem open36 {n : Nat} {a : Option Addr} {len cap : Nat} {x : DataW H × List MemPlace} (h : DataW.trod enc Try.prog w base spare held n 36 [.slice a len cap] = some x) : ∃ ps, IsPars w a len ps := by
  rcases open_slice Try.underlying36 h with ⟨hcs, _⟩ | ⟨ad, len', cap', m, k, D, Pl, hcs, hb, hl, hm, hmm, _, hx⟩
  · simp only [List.cons.injEq, Value.slice.injEq, and_true] at hcs
    obtain ⟨rfl, rfl, rfl⟩ := hcs
    exact ⟨fun _ => ⟨⟨#[]⟩, 0, ⟨#[]⟩, 0, 0, 0, 0⟩, by omega, fun k hk => by omega⟩
  · simp only [List.cons.injEq, Value.slice.injEq, and_true] at hcs
    obtain ⟨rfl, rfl, rfl⟩ := hcs
    have hlm : len ≤ m := by rw [hmm]; split <;> omega
    have each : ∀ i, i < len → ∃ p : Par, ∀ j, j < 7 → w.cell? ((ad.add (i * 7)).add j) = p.cells[j]? := by
      intro i hi
      obtain ⟨cs', h1, h2⟩ := hx i (by omega)
      rw [Try.cells68] at h1
      obtain ⟨p, rfl⟩ := open68 h2
      obtain ⟨_, hlen, hcell⟩ := World.cells?_some h1
      exact ⟨p, fun j hj => hcell j (by omega)⟩
    haveI : Inhabited Par := ⟨⟨⟨#[]⟩, 0, ⟨#[]⟩, 0, 0, 0, 0⟩⟩
    obtain ⟨ps, hps⟩ := choose_lt each
    refine ⟨ps, by unfold maxLen at hm; omega, fun k hk => ?_⟩
    obtain ⟨b, off, spot⟩ := ad
    have hc0 := hps 0 (by omega) 0 (by omega)
    simp only [Nat.zero_mul, Addr.add, if_true] at hc0
    have hspot : spot = none := World.cell?_spot (a := ⟨b, off, spot⟩) (by rw [hc0]; rfl)
    subst hspot
    have key : ∀ j v, j < 7 → (ps k).cells[j]? = some v → w.cell? ⟨b, off + k * 7 + j, none⟩ = some v := by
      intro j v hj hv
      have := hps k hk j hj
      rw [add_plain, add_plain, hv] at this
      exact this
    have k0 := key 0 _ (by omega) rfl
    refine ⟨b, off, rfl, block_lt_of_cell k0, ?_⟩
    exact ⟨key 0 _ (by omega) rfl, key 1 _ (by omega) rfl, key 2 _ (by omega) rfl, key 3 _ (by omega) rfl, key 4 _ (by omega) rfl, key 5 _ (by omega) rfl, key 6 _ (by omega) rfl⟩

theorem open37 {n : Nat} {a : Option Addr} {len cap : Nat} {x : DataW H × List MemPlace} (h : DataW.trod enc Try.prog w base spare held n 37 [.slice a len cap] = some x) : ∃ ps, IsBnds w a len ps := by
  rcases open_slice Try.underlying37 h with ⟨hcs, _⟩ | ⟨ad, len', cap', m, k, D, Pl, hcs, hb, hl, hm, hmm, _, hx⟩
  · simp only [List.cons.injEq, Value.slice.injEq, and_true] at hcs
    obtain ⟨rfl, rfl, rfl⟩ := hcs
    exact ⟨fun _ => ⟨⟨#[]⟩, 0, 0, 0, 0, 0⟩, by omega, fun k hk => by omega⟩
  · simp only [List.cons.injEq, Value.slice.injEq, and_true] at hcs
    obtain ⟨rfl, rfl, rfl⟩ := hcs
    have hlm : len ≤ m := by rw [hmm]; split <;> omega
    have each : ∀ i, i < len → ∃ p : Bnd, ∀ j, j < 6 → w.cell? ((ad.add (i * 6)).add j) = p.cells[j]? := by
      intro i hi
      obtain ⟨cs', h1, h2⟩ := hx i (by omega)
      rw [Try.cells70] at h1
      obtain ⟨p, rfl⟩ := open70 h2
      obtain ⟨_, hlen, hcell⟩ := World.cells?_some h1
      exact ⟨p, fun j hj => hcell j (by omega)⟩
    haveI : Inhabited Bnd := ⟨⟨⟨#[]⟩, 0, 0, 0, 0, 0⟩⟩
    obtain ⟨ps, hps⟩ := choose_lt each
    refine ⟨ps, by unfold maxLen at hm; omega, fun k hk => ?_⟩
    obtain ⟨b, off, spot⟩ := ad
    have hc0 := hps 0 (by omega) 0 (by omega)
    simp only [Nat.zero_mul, Addr.add, if_true] at hc0
    have hspot : spot = none := World.cell?_spot (a := ⟨b, off, spot⟩) (by rw [hc0]; rfl)
    subst hspot
    have key : ∀ j v, j < 6 → (ps k).cells[j]? = some v → w.cell? ⟨b, off + k * 6 + j, none⟩ = some v := by
      intro j v hj hv
      have := hps k hk j hj
      rw [add_plain, add_plain, hv] at this
      exact this
    have k0 := key 0 _ (by omega) rfl
    refine ⟨b, off, rfl, block_lt_of_cell k0, ?_⟩
    exact ⟨key 0 _ (by omega) rfl, key 1 _ (by omega) rfl, key 2 _ (by omega) rfl, key 3 _ (by omega) rfl, key 4 _ (by omega) rfl, key 5 _ (by omega) rfl⟩

theorem arr20 {α : Type} {cs : Array α} (h : cs.size = 20) : ∃ v0 v1 v2 v3 v4 v5 v6 v7 v8 v9 v10 v11 v12 v13 v14 v15 v16 v17 v18 v19 : α, cs = #[v0, v1, v2, v3, v4, v5, v6, v7, v8, v9, v10, v11, v12, v13, v14, v15, v16, v17, v18, v19] := by
  obtain ⟨l⟩ := cs
  have h' : l.length = 20 := by simpa using h
  match l, h' with
  | [v0, v1, v2, v3, v4, v5, v6, v7, v8, v9, v10, v11, v12, v13, v14, v15, v16, v17, v18, v19], _ => exact ⟨v0, v1, v2, v3, v4, v5, v6, v7, v8, v9, v10, v11, v12, v13, v14, v15, v16, v17, v18, v19, rfl⟩
theorem open38 {n : Nat} {v0 v1 v2 v3 v4 v5 v6 v7 v8 v9 v10 v11 v12 v13 v14 v15 : Value} {x : DataW H × List MemPlace} (h : DataW.trod enc Try.prog w base spare held n 38 [v0, v1, v2, v3, v4, v5, v6, v7, v8, v9, v10, v11, v12, v13, v14, v15] = some x) : ∃ T : Tops, v0 = .int .u64 T.t0 ∧ v1 = .int .u64 T.t1 ∧ v2 = .int .u64 T.t2 ∧ v3 = .int .u64 T.t3 ∧ v4 = .int .u64 T.t4 ∧ v5 = .int .u64 T.t5 ∧ v6 = .int .u64 T.t6 ∧ v7 = .int .u64 T.t7 ∧ v8 = .int .u64 T.t8 ∧ v9 = .int .u64 T.t9 ∧ v10 = .int .u64 T.t10 ∧ v11 = .int .u64 T.t11 ∧ v12 = .int .u64 T.t12 ∧ v13 = .int .u64 T.t13 ∧ v14 = .int .u64 T.t14 ∧ v15 = .int .u64 T.t15 := by
  obtain ⟨xs, m, hm, hx, hl, hxl, hf⟩ := DataW.trod_array Try.underlying38 h
  have key : ∀ i, i < 16 → ∃ t : Int, [v0, v1, v2, v3, v4, v5, v6, v7, v8, v9, v10, v11, v12, v13, v14, v15][i]? = some (.int .u64 t) := by
    intro i hi
    have g := hf i hi
    rw [Try.cells33, Nat.mul_one, List.getElem?_eq_getElem (by omega)] at g
    obtain ⟨t, e, _⟩ := DataW.trod_int Try.underlying33 g
    refine ⟨t, ?_⟩
    have e' := congrArg (·[0]?) e
    simpa [List.getElem?_take, List.getElem?_drop] using e'
  obtain ⟨t0, e0⟩ := key 0 (by omega)
  obtain ⟨t1, e1⟩ := key 1 (by omega)
  obtain ⟨t2, e2⟩ := key 2 (by omega)
  obtain ⟨t3, e3⟩ := key 3 (by omega)
  obtain ⟨t4, e4⟩ := key 4 (by omega)
  obtain ⟨t5, e5⟩ := key 5 (by omega)
  obtain ⟨t6, e6⟩ := key 6 (by omega)
  obtain ⟨t7, e7⟩ := key 7 (by omega)
  obtain ⟨t8, e8⟩ := key 8 (by omega)
  obtain ⟨t9, e9⟩ := key 9 (by omega)
  obtain ⟨t10, e10⟩ := key 10 (by omega)
  obtain ⟨t11, e11⟩ := key 11 (by omega)
  obtain ⟨t12, e12⟩ := key 12 (by omega)
  obtain ⟨t13, e13⟩ := key 13 (by omega)
  obtain ⟨t14, e14⟩ := key 14 (by omega)
  obtain ⟨t15, e15⟩ := key 15 (by omega)
  simp only [List.getElem?_cons_zero, List.getElem?_cons_succ, Option.some.injEq] at e0 e1 e2 e3 e4 e5 e6 e7 e8 e9 e10 e11 e12 e13 e14 e15
  exact ⟨⟨t0, t1, t2, t3, t4, t5, t6, t7, t8, t9, t10, t11, t12, t13, t14, t15⟩, e0, e1, e2, e3, e4, e5, e6, e7, e8, e9, e10, e11, e12, e13, e14, e15⟩
theorem open40 {r : Reach} {b0 : Nat} {v : Value} {d : DataW H} {p : List MemPlace} (hval : Value.okWide Try.prog w r b0 40 v) (h : DataW.Trod enc Try.prog w base spare held 40 v d p) : ∃ cs A, v = .agg cs ∧ TalIn w A cs := by
  obtain ⟨cs, rfl, hsz⟩ := okWide_struct Try.underlying40 hval
  obtain ⟨v0, v1, v2, v3, v4, v5, v6, v7, v8, v9, v10, v11, v12, v13, v14, v15, v16, v17, v18, v19, rfl⟩ := arr20 (hsz.trans Try.cells40)
  obtain ⟨fuel, hf0⟩ := h
  obtain ⟨xs, n, hn, hx, hl, hxl, hf⟩ := DataW.trod_struct Try.underlying40 hf0
  have hxl' : xs.length = 5 := hxl
  obtain ⟨y0, y1, y2, y3, y4, rfl⟩ := list5 hxl'
  have g0 := hf 0 _ rfl
  have g1 := hf 1 _ rfl
  have g2 := hf 2 _ rfl
  have g3 := hf 3 _ rfl
  have g4 := hf 4 _ rfl
  clear hf hx hxl hl hf0
  simp [Value.cells, Try.cells33, Try.cells36, Try.cells37, Try.cells38, Try.cells4] at g0 g1 g2 g3 g4
  obtain ⟨m, e0, _, _⟩ := DataW.trod_int Try.underlying33 g0
  obtain ⟨cut, e4, _⟩ := DataW.trod_bool Try.underlying4 g4
  obtain ⟨T, t0, t1, t2, t3, t4, t5, t6, t7, t8, t9, t10, t11, t12, t13, t14, t15⟩ := open38 g3
  obtain ⟨va, vn, vc, e1⟩ : ∃ va vn vc, v1 = .slice va vn vc := by
    rcases DataW.trod_slice Try.underlying36 g1 with ⟨e, _⟩ | ⟨a, len, cap, _, _, _, _, e, _⟩ <;> exact ⟨_, _, _, by simpa using e⟩
  obtain ⟨ba, bn, bc, e2⟩ : ∃ va vn vc, v2 = .slice va vn vc := by
    rcases DataW.trod_slice Try.underlying37 g2 with ⟨e, _⟩ | ⟨a, len, cap, _, _, _, _, e, _⟩ <;> exact ⟨_, _, _, by simpa using e⟩
  rw [e1] at g1
  rw [e2] at g2
  obtain ⟨ps, hp⟩ := open36 g1
  obtain ⟨bs, hb⟩ := open37 g2
  simp only [List.cons.injEq, and_true] at e0 e4
  exact ⟨_, ⟨m, vn, ps, bn, bs, T, cut⟩, rfl, va, vc, ba, bc, by rw [e0, e1, e2, e4, t0, t1, t2, t3, t4, t5, t6, t7, t8, t9, t10, t11, t12, t13, t14, t15]; rfl, hp, hb⟩
end
end Go.Proofs.Qxb6601324a
