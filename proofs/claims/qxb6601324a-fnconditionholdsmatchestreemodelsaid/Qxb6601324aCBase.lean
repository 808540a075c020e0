/-
  Terms and attributes as they lie in memory; what postfixDepth reckons, plainly.
-/
import Derived.Test.Qxb6601324aBoxes
namespace Go.Proofs.Qxb6601324a
open Go.RowKit

structure Trm where
  op : Int
  attr : ByteArray
  hi : Int
  lo : Int
structure Att where
  nm : ByteArray
  hi : Int
  lo : Int
structure TrmAt (w : World) (b o : Nat) (p : Trm) : Prop where
  c0 : w.cell? ⟨b, o, none⟩ = some (.int .u8 p.op)
  c1 : w.cell? ⟨b, o + 1, none⟩ = some (.string p.attr)
  c2 : w.cell? ⟨b, o + 2, none⟩ = some (.int .i64 p.hi)
  c3 : w.cell? ⟨b, o + 3, none⟩ = some (.int .u64 p.lo)
structure AttAt (w : World) (b o : Nat) (p : Att) : Prop where
  c0 : w.cell? ⟨b, o, none⟩ = some (.string p.nm)
  c1 : w.cell? ⟨b, o + 1, none⟩ = some (.int .i64 p.hi)
  c2 : w.cell? ⟨b, o + 2, none⟩ = some (.int .u64 p.lo)
structure IsTrms (w : World) (a : Option Addr) (n : Nat) (ps : Nat → Trm) : Prop where
  le : n ≤ 9223372036854775807
  at' : ∀ k, k < n → ∃ b off, a = some ⟨b, off, none⟩ ∧ b < w.heap.size ∧ TrmAt w b (off + k * 4) (ps k)
structure IsAtts (w : World) (a : Option Addr) (n : Nat) (ps : Nat → Att) : Prop where
  le : n ≤ 9223372036854775807
  at' : ∀ k, k < n → ∃ b off, a = some ⟨b, off, none⟩ ∧ b < w.heap.size ∧ AttAt w b (off + k * 3) (ps k)
theorem TrmAt.below {B : Nat} {w w' : World} (h : Below B w w') {b o : Nat} {p : Trm} (hb : b < B) (hp : TrmAt w b o p) : TrmAt w' b o p := by
  obtain ⟨c0, c1, c2, c3⟩ := hp
  constructor <;> (rw [cell_of_below h hb]; assumption)
theorem AttAt.below {B : Nat} {w w' : World} (h : Below B w w') {b o : Nat} {p : Att} (hb : b < B) (hp : AttAt w b o p) : AttAt w' b o p := by
  obtain ⟨c0, c1, c2⟩ := hp
  constructor <;> (rw [cell_of_below h hb]; assumption)
theorem IsTrms.below {w w' : World} (h : Below w.heap.size w w') {a : Option Addr} {n : Nat} {ps : Nat → Trm} (hp : IsTrms w a n ps) : IsTrms w' a n ps :=
  ⟨hp.le, fun k hk => let ⟨b, off, e, hb, hc⟩ := hp.at' k hk; ⟨b, off, e, Nat.lt_of_lt_of_le hb h.size, hc.below h hb⟩⟩
theorem IsAtts.below {w w' : World} (h : Below w.heap.size w w') {a : Option Addr} {n : Nat} {ps : Nat → Att} (hp : IsAtts w a n ps) : IsAtts w' a n ps :=
  ⟨hp.le, fun k hk => let ⟨b, off, e, hb, hc⟩ := hp.at' k hk; ⟨b, off, e, Nat.lt_of_lt_of_le hb h.size, hc.below h hb⟩⟩
def Trm.cells (p : Trm) : List Value := [.int .u8 p.op, .string p.attr, .int .i64 p.hi, .int .u64 p.lo]
def Att.cells (p : Att) : List Value := [.string p.nm, .int .i64 p.hi, .int .u64 p.lo]

/-- One term's doing to the depth; none: an operand lacks, or no operator. -/
def stepD (op : Int) (d : Nat) : Option Nat :=
  if op < 1 then none else if 9 < op then none else if op = 7 then (if d < 2 then none else some (d - 1)) else if op = 8 then (if d < 2 then none else some (d - 1)) else if op = 9 then (if d < 1 then none else some d) else some (d + 1)
def dep (ts : Nat → Trm) : Nat → Option Nat
  | 0 => some 0
  | k + 1 => (dep ts k).bind (stepD (ts k).op)
theorem dep_none (ts : Nat → Trm) (k : Nat) (h : dep ts k = none) : ∀ n, k ≤ n → dep ts n = none
  | 0, hn => by obtain rfl : k = 0 := by omega
                exact h
  | n + 1, hn => by
    by_cases e : k = n + 1
    · rw [← e]; exact h
    · show (dep ts n).bind _ = none
      rw [dep_none ts k h n (by omega)]; rfl
theorem dep_le (ts : Nat → Trm) : ∀ k d, dep ts k = some d → d ≤ k
  | 0, d, h => by cases h; exact Nat.le_refl _
  | k + 1, d, h => by
    have h' : (dep ts k).bind (stepD (ts k).op) = some d := h
    cases hk : dep ts k with
    | none => rw [hk] at h'; cases h'
    | some d0 =>
      have := dep_le ts k d0 hk
      rw [hk] at h'
      have h2 : stepD (ts k).op d0 = some d := h'
      unfold stepD at h2
      repeat' split at h2
      all_goals first | (cases h2; omega) | cases h2
theorem dep_succ_none {ts : Nat → Trm} {k d : Nat} (h : dep ts k = some d) (hs : stepD (ts k).op d = none) {n : Nat} (hn : k < n) : dep ts n = none :=
  dep_none ts (k + 1) (by show (dep ts k).bind _ = none; rw [h]; exact hs) n hn
theorem dep_succ_some {ts : Nat → Trm} {k d d' : Nat} (h : dep ts k = some d) (hs : stepD (ts k).op d = some d') : dep ts (k + 1) = some d' := by
  show (dep ts k).bind _ = some d'; rw [h]; exact hs

/-- It returned some bool; the world stands. -/
def BoolStill (w : World) (e : Ending) (w' : World) : Prop := (∃ b, e = .returned (.bool b)) ∧ w' = w
theorem boolStill {w : World} (b : Bool) : BoolStill w (.returned (.bool b)) w := ⟨⟨b, rfl⟩, rfl⟩
def IntStill (w : World) (e : Ending) (w' : World) : Prop := (∃ n : Int, 0 ≤ n ∧ n ≤ 1048577 ∧ e = .returned (.int .i64 n)) ∧ w' = w
theorem intStill {w : World} (n : Int) (h0 : 0 ≤ n) (h1 : n ≤ 1048577) : IntStill w (.returned (.int .i64 n)) w := ⟨⟨n, h0, h1, rfl⟩, rfl⟩
end Go.Proofs.Qxb6601324a
