/-
  Blocks that hold a whole struct; a tally as it lies in memory; laws on regions that draw their order and load whole structs.
-/
import Derived.Test.Qxb6601324aBase
import Derived.Deep.RegionWith
import Derived.Deep.RegionHeld3
import Derived.Deep.WholeRow
namespace Go.Proofs.Qxb6601324a
open Go.RowKit

/-- Block b holds the cells cs of type t. -/
def Bx (w : World) (b : Nat) (t : TypeId) (cs : Array Value) : Prop := w.heap[b]? = some (.cells cs t (0, 0))
theorem Bx.below {B b : Nat} {w w' : World} {t : TypeId} {cs : Array Value} (h : Bx w b t cs) (hb : Below B w w') (hB : b < B) : Bx w' b t cs := (hb.block b hB).trans h
theorem Bx.lt {b : Nat} {w : World} {t : TypeId} {cs : Array Value} (h : Bx w b t cs) : b < w.heap.size := by
  unfold Bx at h
  by_cases hlt : b < w.heap.size
  · exact hlt
  · rw [Array.getElem?_eq_none (by omega)] at h; cases h
theorem Bx.new (w : World) (t : TypeId) (cs : Array Value) : Bx (w.alloc (.cells cs t)) w.heap.size t cs := heap_alloc_new _ _
theorem Bx.alloc {w : World} {b : Nat} {t : TypeId} {cs : Array Value} (h : Bx w b t cs) (o : Obj) : Bx (w.alloc o) b t cs := (heap_alloc_old _ _ h.lt).trans h

/-- Three tallies in three boxes, new since w. -/
structure S3 (w : World) (c0 c1 c2 : Array Value) (w' : World) : Prop where
  bel : Below w.heap.size w w'
  b0 : Bx w' w.heap.size 40 c0
  b1 : Bx w' (w.heap.size + 1) 40 c1
  b2 : Bx w' (w.heap.size + 2) 40 c2
theorem S3.start (w : World) (c0 c1 c2 : Array Value) : S3 w c0 c1 c2 (((w.alloc (.cells c0 40)).alloc (.cells c1 40)).alloc (.cells c2 40)) where
  bel := below_box3 _ _ _ _
  b0 := ((Bx.new _ _ _).alloc _).alloc _
  b1 := by have h := (Bx.new (w.alloc (.cells c0 40)) 40 c1).alloc (.cells c2 40); simpa using h
  b2 := by have h := (Bx.new ((w.alloc (.cells c0 40)).alloc (.cells c1 40)) 40 c2); simpa using h
theorem S3.drew {w w' : World} {c0 c1 c2 : Array Value} (h : S3 w c0 c1 c2 w') : S3 w c0 c1 c2 w'.drew := ⟨h.bel.drew, h.b0, h.b1, h.b2⟩
theorem S3.below {w w' w'' : World} {c0 c1 c2 : Array Value} (h : S3 w c0 c1 c2 w') (hb : Below w'.heap.size w' w'') : S3 w c0 c1 c2 w'' :=
  ⟨h.bel.trans (hb.mono h.bel.size), h.b0.below hb h.b0.lt, h.b1.below hb h.b1.lt, h.b2.below hb h.b2.lt⟩

theorem yieldsIf_load_row {P : Program} {ops : Array Oper} {S : World → Prop} {o : Oper} {a : Act} (hw : Region.wanted o (yielded ops a.tmps) = true) (ty : TypeId) (x : Operand) (ho : o.op = .load ty x)
    (g : Nat) (hx : a.eval x = .pointer (some ⟨g, 0, none⟩)) (t : TypeId) (cs : Array Value) (d : TypeDesc) (hg : ∀ w, S w → Bx w g t cs)
    (hu : P.underlying ty = some d) (hd : (match d with | .struct _ | .array _ _ => true | _ => false) = true) (hi : (P.info? ty).map (·.size) = some cs.size) : YieldsIf P ops S o (.agg cs) a :=
  Or.inl ⟨hw, fun w hS => by
    unfold execOp
    simp only [ho, hx, Instr.loadAt, Instr.sureAddr, Sem.run_bind, Sem.run_pure, Result.andThen_ok, run_loadVar_row w g t ty cs (0, 0) d (hg w hS) hu hd hi]⟩


/-! ### A tally -/
structure Tal where
  m : Int
  vn : Nat
  ps : Nat → Par
  bn : Nat
  bs : Nat → Bnd
  T : Tops
  cut : Bool
def tcells (m : Int) (va : Option Addr) (vn vc : Nat) (ba : Option Addr) (bn bc : Nat) (T : Tops) (cut : Bool) : Array Value := #[.int .u64 m, .slice va vn vc, .slice ba bn bc, .int .u64 T.t0, .int .u64 T.t1, .int .u64 T.t2, .int .u64 T.t3, .int .u64 T.t4, .int .u64 T.t5, .int .u64 T.t6, .int .u64 T.t7, .int .u64 T.t8, .int .u64 T.t9, .int .u64 T.t10, .int .u64 T.t11, .int .u64 T.t12, .int .u64 T.t13, .int .u64 T.t14, .int .u64 T.t15, .bool cut]
def tzero : Array Value := #[.int .u64 0, .slice none 0 0, .slice none 0 0, .int .u64 0, .int .u64 0, .int .u64 0, .int .u64 0, .int .u64 0, .int .u64 0, .int .u64 0, .int .u64 0, .int .u64 0, .int .u64 0, .int .u64 0, .int .u64 0, .int .u64 0, .int .u64 0, .int .u64 0, .int .u64 0, .bool false]
structure TalAt (w : World) (A : Tal) (va : Option Addr) (vc : Nat) (ba : Option Addr) (bc : Nat) (cs : Array Value) : Prop where
  eq : cs = tcells A.m va A.vn vc ba A.bn bc A.T A.cut
  pars : IsPars w va A.vn A.ps
  bnds : IsBnds w ba A.bn A.bs
def TalIn (w : World) (A : Tal) (cs : Array Value) : Prop := ∃ va vc ba bc, TalAt w A va vc ba bc cs
theorem TalIn.size {w : World} {A : Tal} {cs : Array Value} (h : TalIn w A cs) : cs.size = 20 := by
  obtain ⟨va, vc, ba, bc, rfl, _, _⟩ := h
  rfl
theorem TalIn.one {w : World} {A : Tal} {cs : Array Value} (h : TalIn w A cs) : cs.all (·.oneCell') = true := by
  obtain ⟨va, vc, ba, bc, rfl, _, _⟩ := h
  simp [tcells, Value.oneCell']
theorem TalIn.below {w w' : World} (h : Below w.heap.size w w') {A : Tal} {cs : Array Value} (ht : TalIn w A cs) : TalIn w' A cs := by
  obtain ⟨va, vc, ba, bc, he, hp, hb⟩ := ht
  exact ⟨va, vc, ba, bc, he, hp.below h, hb.below h⟩
theorem info40 {cs : Array Value} (h : cs.size = 20) : (Try.prog.info? 40).map (·.size) = some cs.size := by rw [h]; kernel_rfl
theorem info46 {cs : Array Value} (h : cs.size = 20) : (Try.prog.info? 46).map (·.size) = some cs.size := by rw [h]; kernel_rfl

end Go.Proofs.Qxb6601324a
