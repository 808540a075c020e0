/-
  Plain data and small laws for the walks over tallies. No statement of the seat's is turned here.
-/
import Derived.Test.Qxb6601324aRows
import Derived.WalkKit
import Derived.WalkSpells
import Derived.WalkLawsBesides
namespace Go.Proofs.Qxb6601324a
open Go.RowKit

structure Par where
  nm : ByteArray
  fn : Int
  attr : ByteArray
  ver : Int
  n : Int
  hi : Int
  lo : Int
structure Bnd where
  attr : ByteArray
  n : Int
  lh : Int
  ll : Int
  hh : Int
  hl : Int
structure Tops where
  t0 : Int
  t1 : Int
  t2 : Int
  t3 : Int
  t4 : Int
  t5 : Int
  t6 : Int
  t7 : Int
  t8 : Int
  t9 : Int
  t10 : Int
  t11 : Int
  t12 : Int
  t13 : Int
  t14 : Int
  t15 : Int

/-- The first four fields agree: the same item. -/
def Par.item (p q : Par) : Bool := p.nm.toList == q.nm.toList && (p.fn == q.fn && (p.attr.toList == q.attr.toList && p.ver == q.ver))
def Par.eqb (p q : Par) : Bool := p.item q && (p.n == q.n && (p.hi == q.hi && p.lo == q.lo))
def Bnd.eqb (p q : Bnd) : Bool := p.attr.toList == q.attr.toList && (p.n == q.n && (p.lh == q.lh && (p.ll == q.ll && (p.hh == q.hh && p.hl == q.hl))))
def Tops.eqb (p q : Tops) : Bool := p.t0 == q.t0 && (p.t1 == q.t1 && (p.t2 == q.t2 && (p.t3 == q.t3 && (p.t4 == q.t4 && (p.t5 == q.t5 && (p.t6 == q.t6 && (p.t7 == q.t7 && (p.t8 == q.t8 && (p.t9 == q.t9 && (p.t10 == q.t10 && (p.t11 == q.t11 && (p.t12 == q.t12 && (p.t13 == q.t13 && (p.t14 == q.t14 && (p.t15 == q.t15)))))))))))))))

theorem bytes_toList_inj {a b : ByteArray} (h : a.toList = b.toList) : a = b := by
  rw [ByteArray.toList_eq, ByteArray.toList_eq] at h
  cases a; cases b
  simp at h
  simp [h]

theorem Par.item_iff (p q : Par) : p.item q = true ↔ p.nm = q.nm ∧ p.fn = q.fn ∧ p.attr = q.attr ∧ p.ver = q.ver := by
  unfold Par.item
  simp only [Bool.and_eq_true, beq_iff_eq]
  constructor
  · rintro ⟨h1, h2, h3, h4⟩; exact ⟨bytes_toList_inj h1, h2, bytes_toList_inj h3, h4⟩
  · rintro ⟨h1, h2, h3, h4⟩; rw [h1, h2, h3, h4]; exact ⟨rfl, rfl, rfl, rfl⟩
theorem Par.eqb_iff (p q : Par) : p.eqb q = true ↔ p = q := by
  unfold Par.eqb
  simp only [Bool.and_eq_true, beq_iff_eq, Par.item_iff]
  constructor
  · rintro ⟨⟨h1, h2, h3, h4⟩, h5, h6, h7⟩; cases p; cases q; simp_all
  · rintro rfl; exact ⟨⟨rfl, rfl, rfl, rfl⟩, rfl, rfl, rfl⟩
theorem Bnd.eqb_iff (p q : Bnd) : p.eqb q = true ↔ p = q := by
  unfold Bnd.eqb
  simp only [Bool.and_eq_true, beq_iff_eq]
  constructor
  · rintro ⟨h1, h2, h3, h4, h5, h6⟩; have := bytes_toList_inj h1; cases p; cases q; simp_all
  · rintro rfl; exact ⟨rfl, rfl, rfl, rfl, rfl, rfl⟩
theorem Tops.eqb_iff (p q : Tops) : p.eqb q = true ↔ p = q := by
  unfold Tops.eqb
  simp only [Bool.and_eq_true, beq_iff_eq]
  constructor
  · rintro h; cases p; cases q; simp_all
  · rintro rfl; simp

theorem eq76 (p q : Par) (w : World) : (Op.equalIn 10000 76 (.agg #[.string p.nm, .int .u8 p.fn, .string p.attr, .int .u64 p.ver]) (.agg #[.string q.nm, .int .u8 q.fn, .string q.attr, .int .u64 q.ver])).run Try.prog w = .ok (p.item q) w := by
  rw [show 10000 = 9999 + 1 from rfl, run_equalIn_agg w 9999 76 _ _ (by kernel_rfl) (by kernel_rfl)]
  simp only [Program.fieldsOf, Try.underlying76]
  go_simp
  unfold Par.item
  by_cases h0 : p.nm.toList = q.nm.toList
  rotate_left
  · simp [h0]
  by_cases h1 : p.fn = q.fn
  rotate_left
  · simp [h0, h1]
  by_cases h2 : p.attr.toList = q.attr.toList
  rotate_left
  · simp [h0, h1, h2]
  by_cases h3 : p.ver = q.ver
  rotate_left
  · simp [h0, h1, h2, h3]
  simp [h0, h1, h2, h3]

theorem eq78 (p q : Par) (w : World) : (Op.equalIn 10000 78 (.agg #[.string p.nm, .int .u8 p.fn, .string p.attr, .int .u64 p.ver, .int .u64 p.n, .int .i64 p.hi, .int .u64 p.lo]) (.agg #[.string q.nm, .int .u8 q.fn, .string q.attr, .int .u64 q.ver, .int .u64 q.n, .int .i64 q.hi, .int .u64 q.lo])).run Try.prog w = .ok (p.eqb q) w := by
  rw [show 10000 = 9999 + 1 from rfl, run_equalIn_agg w 9999 78 _ _ (by kernel_rfl) (by kernel_rfl)]
  simp only [Program.fieldsOf, Try.underlying78]
  go_simp
  unfold Par.eqb Par.item
  by_cases h0 : p.nm.toList = q.nm.toList
  rotate_left
  · simp [h0]
  by_cases h1 : p.fn = q.fn
  rotate_left
  · simp [h0, h1]
  by_cases h2 : p.attr.toList = q.attr.toList
  rotate_left
  · simp [h0, h1, h2]
  by_cases h3 : p.ver = q.ver
  rotate_left
  · simp [h0, h1, h2, h3]
  by_cases h4 : p.n = q.n
  rotate_left
  · simp [h0, h1, h2, h3, h4]
  by_cases h5 : p.hi = q.hi
  rotate_left
  · simp [h0, h1, h2, h3, h4, h5]
  by_cases h6 : p.lo = q.lo
  rotate_left
  · simp [h0, h1, h2, h3, h4, h5, h6]
  simp [h0, h1, h2, h3, h4, h5, h6]

theorem eq81 (p q : Bnd) (w : World) : (Op.equalIn 10000 81 (.agg #[.string p.attr, .int .u64 p.n, .int .i64 p.lh, .int .u64 p.ll, .int .i64 p.hh, .int .u64 p.hl]) (.agg #[.string q.attr, .int .u64 q.n, .int .i64 q.lh, .int .u64 q.ll, .int .i64 q.hh, .int .u64 q.hl])).run Try.prog w = .ok (p.eqb q) w := by
  rw [show 10000 = 9999 + 1 from rfl, run_equalIn_agg w 9999 81 _ _ (by kernel_rfl) (by kernel_rfl)]
  simp only [Program.fieldsOf, Try.underlying81]
  go_simp
  unfold Bnd.eqb
  by_cases h0 : p.attr.toList = q.attr.toList
  rotate_left
  · simp [h0]
  by_cases h1 : p.n = q.n
  rotate_left
  · simp [h0, h1]
  by_cases h2 : p.lh = q.lh
  rotate_left
  · simp [h0, h1, h2]
  by_cases h3 : p.ll = q.ll
  rotate_left
  · simp [h0, h1, h2, h3]
  by_cases h4 : p.hh = q.hh
  rotate_left
  · simp [h0, h1, h2, h3, h4]
  by_cases h5 : p.hl = q.hl
  rotate_left
  · simp [h0, h1, h2, h3, h4, h5]
  simp [h0, h1, h2, h3, h4, h5]

theorem eq44 (p q : Tops) (w : World) : (Op.equalIn 10000 44 (.agg #[.int .u64 p.t0, .int .u64 p.t1, .int .u64 p.t2, .int .u64 p.t3, .int .u64 p.t4, .int .u64 p.t5, .int .u64 p.t6, .int .u64 p.t7, .int .u64 p.t8, .int .u64 p.t9, .int .u64 p.t10, .int .u64 p.t11, .int .u64 p.t12, .int .u64 p.t13, .int .u64 p.t14, .int .u64 p.t15]) (.agg #[.int .u64 q.t0, .int .u64 q.t1, .int .u64 q.t2, .int .u64 q.t3, .int .u64 q.t4, .int .u64 q.t5, .int .u64 q.t6, .int .u64 q.t7, .int .u64 q.t8, .int .u64 q.t9, .int .u64 q.t10, .int .u64 q.t11, .int .u64 q.t12, .int .u64 q.t13, .int .u64 q.t14, .int .u64 q.t15])).run Try.prog w = .ok (p.eqb q) w := by
  rw [show (10000 : Nat) = 9999 + 1 from rfl, Op.equalIn]
  simp only [Sem.run_bind, run_underlying Try.underlying44, Result.andThen_ok]
  simp only [Std.Legacy.Range.forIn_eq_forIn_range', Std.Legacy.Range.size, Nat.sub_zero, Nat.add_sub_cancel, Nat.div_one, List.range'_succ, List.range'_zero, List.forIn_cons, List.forIn_nil]
  go_simp
  unfold Tops.eqb
  by_cases h0 : p.t0 = q.t0
  rotate_left
  · simp [h0]
  by_cases h1 : p.t1 = q.t1
  rotate_left
  · simp [h0, h1]
  by_cases h2 : p.t2 = q.t2
  rotate_left
  · simp [h0, h1, h2]
  by_cases h3 : p.t3 = q.t3
  rotate_left
  · simp [h0, h1, h2, h3]
  by_cases h4 : p.t4 = q.t4
  rotate_left
  · simp [h0, h1, h2, h3, h4]
  by_cases h5 : p.t5 = q.t5
  rotate_left
  · simp [h0, h1, h2, h3, h4, h5]
  by_cases h6 : p.t6 = q.t6
  rotate_left
  · simp [h0, h1, h2, h3, h4, h5, h6]
  by_cases h7 : p.t7 = q.t7
  rotate_left
  · simp [h0, h1, h2, h3, h4, h5, h6, h7]
  by_cases h8 : p.t8 = q.t8
  rotate_left
  · simp [h0, h1, h2, h3, h4, h5, h6, h7, h8]
  by_cases h9 : p.t9 = q.t9
  rotate_left
  · simp [h0, h1, h2, h3, h4, h5, h6, h7, h8, h9]
  by_cases h10 : p.t10 = q.t10
  rotate_left
  · simp [h0, h1, h2, h3, h4, h5, h6, h7, h8, h9, h10]
  by_cases h11 : p.t11 = q.t11
  rotate_left
  · simp [h0, h1, h2, h3, h4, h5, h6, h7, h8, h9, h10, h11]
  by_cases h12 : p.t12 = q.t12
  rotate_left
  · simp [h0, h1, h2, h3, h4, h5, h6, h7, h8, h9, h10, h11, h12]
  by_cases h13 : p.t13 = q.t13
  rotate_left
  · simp [h0, h1, h2, h3, h4, h5, h6, h7, h8, h9, h10, h11, h12, h13]
  by_cases h14 : p.t14 = q.t14
  rotate_left
  · simp [h0, h1, h2, h3, h4, h5, h6, h7, h8, h9, h10, h11, h12, h13, h14]
  by_cases h15 : p.t15 = q.t15
  rotate_left
  · simp [h0, h1, h2, h3, h4, h5, h6, h7, h8, h9, h10, h11, h12, h13, h14, h15]
  simp [h0, h1, h2, h3, h4, h5, h6, h7, h8, h9, h10, h11, h12, h13, h14, h15]


/-! ### An aggregate, a bound, as they lie in memory -/
structure ParAt (w : World) (b o : Nat) (p : Par) : Prop where
  c0 : w.cell? ⟨b, o, none⟩ = some (.string p.nm)
  c1 : w.cell? ⟨b, o + 1, none⟩ = some (.int .u8 p.fn)
  c2 : w.cell? ⟨b, o + 2, none⟩ = some (.string p.attr)
  c3 : w.cell? ⟨b, o + 3, none⟩ = some (.int .u64 p.ver)
  c4 : w.cell? ⟨b, o + 4, none⟩ = some (.int .u64 p.n)
  c5 : w.cell? ⟨b, o + 5, none⟩ = some (.int .i64 p.hi)
  c6 : w.cell? ⟨b, o + 6, none⟩ = some (.int .u64 p.lo)
structure BndAt (w : World) (b o : Nat) (p : Bnd) : Prop where
  c0 : w.cell? ⟨b, o, none⟩ = some (.string p.attr)
  c1 : w.cell? ⟨b, o + 1, none⟩ = some (.int .u64 p.n)
  c2 : w.cell? ⟨b, o + 2, none⟩ = some (.int .i64 p.lh)
  c3 : w.cell? ⟨b, o + 3, none⟩ = some (.int .u64 p.ll)
  c4 : w.cell? ⟨b, o + 4, none⟩ = some (.int .i64 p.hh)
  c5 : w.cell? ⟨b, o + 5, none⟩ = some (.int .u64 p.hl)
structure IsPars (w : World) (a : Option Addr) (n : Nat) (ps : Nat → Par) : Prop where
  le : n ≤ 9223372036854775807
  at' : ∀ k, k < n → ∃ b off, a = some ⟨b, off, none⟩ ∧ b < w.heap.size ∧ ParAt w b (off + k * 7) (ps k)
structure IsBnds (w : World) (a : Option Addr) (n : Nat) (ps : Nat → Bnd) : Prop where
  le : n ≤ 9223372036854775807
  at' : ∀ k, k < n → ∃ b off, a = some ⟨b, off, none⟩ ∧ b < w.heap.size ∧ BndAt w b (off + k * 6) (ps k)

theorem cell_of_below {B : Nat} {w w' : World} (h : Below B w w') {b o : Nat} (hb : b < B) : w'.cell? ⟨b, o, none⟩ = w.cell? ⟨b, o, none⟩ := h.cell (p := ⟨b, o, none⟩) hb
theorem ParAt.below {B : Nat} {w w' : World} (h : Below B w w') {b o : Nat} {p : Par} (hb : b < B) (hp : ParAt w b o p) : ParAt w' b o p := by
  obtain ⟨c0, c1, c2, c3, c4, c5, c6⟩ := hp
  constructor <;> (rw [cell_of_below h hb]; assumption)
theorem BndAt.below {B : Nat} {w w' : World} (h : Below B w w') {b o : Nat} {p : Bnd} (hb : b < B) (hp : BndAt w b o p) : BndAt w' b o p := by
  obtain ⟨c0, c1, c2, c3, c4, c5⟩ := hp
  constructor <;> (rw [cell_of_below h hb]; assumption)
theorem IsPars.below {w w' : World} (h : Below w.heap.size w w') {a : Option Addr} {n : Nat} {ps : Nat → Par} (hp : IsPars w a n ps) : IsPars w' a n ps :=
  ⟨hp.le, fun k hk => let ⟨b, off, e, hb, hc⟩ := hp.at' k hk; ⟨b, off, e, Nat.lt_of_lt_of_le hb h.size, hc.below h hb⟩⟩
theorem IsBnds.below {w w' : World} (h : Below w.heap.size w w') {a : Option Addr} {n : Nat} {ps : Nat → Bnd} (hp : IsBnds w a n ps) : IsBnds w' a n ps :=
  ⟨hp.le, fun k hk => let ⟨b, off, e, hb, hc⟩ := hp.at' k hk; ⟨b, off, e, Nat.lt_of_lt_of_le hb h.size, hc.below h hb⟩⟩

/-- It returned some bool, and turned nothing that was there. -/
def SomeBool (w : World) (e : Ending) (w' : World) : Prop := (∃ b, e = .returned (.bool b)) ∧ Below w.heap.size w w'
theorem someBool {w w' : World} (b : Bool) (h : Below w.heap.size w w') : SomeBool w (.returned (.bool b)) w' := ⟨⟨b, rfl⟩, h⟩
/-- It returned some int, and turned nothing that was there. -/
def SomeInt (w : World) (e : Ending) (w' : World) : Prop := (∃ n : Int, 0 ≤ n ∧ n ≤ 1048577 ∧ e = .returned (.int .i64 n)) ∧ Below w.heap.size w w'
theorem someInt {w w' : World} (n : Int) (h0 : 0 ≤ n) (h1 : n ≤ 1048577) (h : Below w.heap.size w w') : SomeInt w (.returned (.int .i64 n)) w' := ⟨⟨n, h0, h1, rfl⟩, h⟩
theorem below_box (w : World) (o : Obj) : Below w.heap.size w (w.alloc o) := (Below.refl _ _).alloc (Nat.le_refl _) _
theorem below_box2 (w : World) (o o' : Obj) : Below w.heap.size w ((w.alloc o).alloc o') := (below_box w o).alloc (by simp) _
theorem below_box3 (w : World) (o o' o'' : Obj) : Below w.heap.size w (((w.alloc o).alloc o').alloc o'') := (below_box2 w o o').alloc (by simp; omega) _

end Go.Proofs.Qxb6601324a
