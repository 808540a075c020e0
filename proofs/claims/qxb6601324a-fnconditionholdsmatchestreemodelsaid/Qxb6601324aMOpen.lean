/-
  The same readings, with the bounds of the signed halves.
-/
import Derived.Test.Qxb6601324aCOpen
import Derived.Test.Qxb6601324aMOrder
namespace Go.Proofs.Qxb6601324a
namespace Cond
open Go.ChangeShapes Go.WideShapes Go.ChangeAt Go.RowKit Go.Deep
set_option linter.unusedSimpArgs false
set_option linter.unusedVariables false
theorem inI64_of {n : Int} (h : (Lit.int .i64 n).wf = true) : InI64 n := by
  simp [Lit.wf, IntKind.min, IntKind.max, IntKind.signed, IntKind.bits] at h
  exact ⟨by omega, by omega⟩
section
variable {H : Type} {enc : TypeId × Value → H} {w : World} {base : Nat} {spare : Nat → Bool} {held : Bool}

theorem open35w {n : Nat} {cs : List Value} {x : DataW H × List MemPlace} (h : DataW.trod enc Try.prog w base spare held n 35 cs = some x) : ∃ p : Trm, cs = p.cells ∧ InI64 p.hi := by
  obtain ⟨xs, k, hk, hxy, hl, hxl, hf⟩ := DataW.trod_struct Try.underlying35 h
  have hl' : cs.length = 4 := hl.trans (by kernel_rfl)
  have hxl' : xs.length = 4 := hxl
  clear hk hxy hl hxl h
  obtain ⟨y0, y1, y2, y3, rfl⟩ := list4 hxl'
  obtain ⟨v0, v1, v2, v3, rfl⟩ := list4 hl'
  have g0 := hf 0 _ rfl
  simp [Try.cells5] at g0
  obtain ⟨s0, e0, _, _⟩ := DataW.trod_int Try.underlying5 g0
  simp only [List.cons.injEq, and_true] at e0
  have g1 := hf 1 _ rfl
  simp [Try.cells9] at g1
  obtain ⟨s1, e1, _, _⟩ := DataW.trod_string Try.underlying9 g1
  simp only [List.cons.injEq, and_true] at e1
  have g2 := hf 2 _ rfl
  simp [Try.cells2] at g2
  obtain ⟨s2, e2, _, wf⟩ := DataW.trod_int Try.underlying2 g2
  simp only [List.cons.injEq, and_true] at e2
  have g3 := hf 3 _ rfl
  simp [Try.cells33] at g3
  obtain ⟨s3, e3, _, _⟩ := DataW.trod_int Try.underlying33 g3
  simp only [List.cons.injEq, and_true] at e3
  exact ⟨⟨s0, s1, s2, s3⟩, by rw [e0, e1, e2, e3]; rfl, inI64_of wf⟩


theorem open51w {n : Nat} {cs : List Value} {x : DataW H × List MemPlace} (h : DataW.trod enc Try.prog w base spare held n 51 cs = some x) : ∃ p : Att, cs = p.cells ∧ InI64 p.hi := by
  obtain ⟨xs, k, hk, hxy, hl, hxl, hf⟩ := DataW.trod_struct Try.underlying51 h
  have hl' : cs.length = 3 := hl.trans (by kernel_rfl)
  have hxl' : xs.length = 3 := hxl
  clear hk hxy hl hxl h
  obtain ⟨y0, y1, y2, rfl⟩ := list3 hxl'
  obtain ⟨v0, v1, v2, rfl⟩ := list3 hl'
  have g0 := hf 0 _ rfl
  simp [Try.cells9] at g0
  obtain ⟨s0, e0, _, _⟩ := DataW.trod_string Try.underlying9 g0
  simp only [List.cons.injEq, and_true] at e0
  have g1 := hf 1 _ rfl
  simp [Try.cells2] at g1
  obtain ⟨s1, e1, _, wf⟩ := DataW.trod_int Try.underlying2 g1
  simp only [List.cons.injEq, and_true] at e1
  have g2 := hf 2 _ rfl
  simp [Try.cells33] at g2
  obtain ⟨s2, e2, _, _⟩ := DataW.trod_int Try.underlying33 g2
  simp only [List.cons.injEq, and_true] at e2
  exact ⟨⟨s0, s1, s2⟩, by rw [e0, e1, e2]; rfl, inI64_of wf⟩


theorem open22w {n : Nat} {a : Option Addr} {len cap : Nat} {x : DataW H × List MemPlace} (h : DataW.trod enc Try.prog w base spare held n 22 [.slice a len cap] = some x) : ∃ ps, IsTrms w a len ps ∧ ∀ k, k < len → InI64 (ps k).hi := by
  rcases open_slice Try.underlying22 h with ⟨hcs, _⟩ | ⟨ad, len', cap', m, k, D, Pl, hcs, hb, hl, hm, hmm, _, hx⟩
  · simp only [List.cons.injEq, Value.slice.injEq, and_true] at hcs
    obtain ⟨rfl, rfl, rfl⟩ := hcs
    exact ⟨fun _ => ⟨0, ⟨#[]⟩, 0, 0⟩, ⟨by omega, fun k hk => by omega⟩, fun k hk => by omega⟩
  · simp only [List.cons.injEq, Value.slice.injEq, and_true] at hcs
    obtain ⟨rfl, rfl, rfl⟩ := hcs
    have hlm : len ≤ m := by rw [hmm]; split <;> omega
    have each : ∀ i, i < len → ∃ p : Trm, InI64 p.hi ∧ ∀ j, j < 4 → w.cell? ((ad.add (i * 4)).add j) = p.cells[j]? := by
      intro i hi
      obtain ⟨cs', h1, h2⟩ := hx i (by omega)
      rw [Try.cells35] at h1
      obtain ⟨p, rfl, hpw⟩ := open35w h2
      obtain ⟨_, hlen, hcell⟩ := World.cells?_some h1
      exact ⟨p, hpw, fun j hj => hcell j (by omega)⟩
    haveI : Inhabited Trm := ⟨⟨0, ⟨#[]⟩, 0, 0⟩⟩
    obtain ⟨ps, hps⟩ := choose_lt each
    refine ⟨ps, ⟨by unfold maxLen at hm; omega, fun k hk => ?_⟩, fun k hk => (hps k hk).1⟩
    obtain ⟨b, off, spot⟩ := ad
    have hc0 := (hps 0 (by omega)).2 0 (by omega)
    simp only [Nat.zero_mul, Addr.add, if_true] at hc0
    have hspot : spot = none := World.cell?_spot (a := ⟨b, off, spot⟩) (by rw [hc0]; rfl)
    subst hspot
    have key : ∀ j v, j < 4 → (ps k).cells[j]? = some v → w.cell? ⟨b, off + k * 4 + j, none⟩ = some v := by
      intro j v hj hv
      have := (hps k hk).2 j hj
      rw [add_plain, add_plain, hv] at this
      exact this
    have k0 := key 0 _ (by omega) rfl
    refine ⟨b, off, rfl, block_lt_of_cell k0, ?_⟩
    exact ⟨key 0 _ (by omega) rfl, key 1 _ (by omega) rfl, key 2 _ (by omega) rfl, key 3 _ (by omega) rfl⟩


theorem open23w {n : Nat} {a : Option Addr} {len cap : Nat} {x : DataW H × List MemPlace} (h : DataW.trod enc Try.prog w base spare held n 23 [.slice a len cap] = some x) : ∃ ps, IsAtts w a len ps ∧ ∀ k, k < len → InI64 (ps k).hi := by
  rcases open_slice Try.underlying23 h with ⟨hcs, _⟩ | ⟨ad, len', cap', m, k, D, Pl, hcs, hb, hl, hm, hmm, _, hx⟩
  · simp only [List.cons.injEq, Value.slice.injEq, and_true] at hcs
    obtain ⟨rfl, rfl, rfl⟩ := hcs
    exact ⟨fun _ => ⟨⟨#[]⟩, 0, 0⟩, ⟨by omega, fun k hk => by omega⟩, fun k hk => by omega⟩
  · simp only [List.cons.injEq, Value.slice.injEq, and_true] at hcs
    obtain ⟨rfl, rfl, rfl⟩ := hcs
    have hlm : len ≤ m := by rw [hmm]; split <;> omega
    have each : ∀ i, i < len → ∃ p : Att, InI64 p.hi ∧ ∀ j, j < 3 → w.cell? ((ad.add (i * 3)).add j) = p.cells[j]? := by
      intro i hi
      obtain ⟨cs', h1, h2⟩ := hx i (by omega)
      rw [Try.cells51] at h1
      obtain ⟨p, rfl, hpw⟩ := open51w h2
      obtain ⟨_, hlen, hcell⟩ := World.cells?_some h1
      exact ⟨p, hpw, fun j hj => hcell j (by omega)⟩
    haveI : Inhabited Att := ⟨⟨⟨#[]⟩, 0, 0⟩⟩
    obtain ⟨ps, hps⟩ := choose_lt each
    refine ⟨ps, ⟨by unfold maxLen at hm; omega, fun k hk => ?_⟩, fun k hk => (hps k hk).1⟩
    obtain ⟨b, off, spot⟩ := ad
    have hc0 := (hps 0 (by omega)).2 0 (by omega)
    simp only [Nat.zero_mul, Addr.add, if_true] at hc0
    have hspot : spot = none := World.cell?_spot (a := ⟨b, off, spot⟩) (by rw [hc0]; rfl)
    subst hspot
    have key : ∀ j v, j < 3 → (ps k).cells[j]? = some v → w.cell? ⟨b, off + k * 3 + j, none⟩ = some v := by
      intro j v hj hv
      have := (hps k hk).2 j hj
      rw [add_plain, add_plain, hv] at this
      exact this
    have k0 := key 0 _ (by omega) rfl
    refine ⟨b, off, rfl, block_lt_of_cell k0, ?_⟩
    exact ⟨key 0 _ (by omega) rfl, key 1 _ (by omega) rfl, key 2 _ (by omega) rfl⟩


end
end Cond
end Go.Proofs.Qxb6601324a
