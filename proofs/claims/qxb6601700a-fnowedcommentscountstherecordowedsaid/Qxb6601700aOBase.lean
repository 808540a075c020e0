/-
  Slices of strings as they lie in memory; the guards; zzB1CloneStrs; (Owed).comments.
-/
import Derived.Test.Qxb6601700aRows
import Derived.WalkKit
import Derived.WalkSpells
import Derived.WalkLawsBesides
namespace Go.Proofs.Qxb6601700a
open Go.RowKit
set_option linter.unusedSimpArgs false
set_option linter.unusedVariables false

structure IsStrs (w : World) (a : Option Addr) (n : Nat) (ss : Nat → ByteArray) : Prop where
  le : n ≤ 9223372036854775807
  at' : ∀ k, k < n → ∃ b off, a = some ⟨b, off, none⟩ ∧ b < w.heap.size ∧ w.cell? ⟨b, off + k, none⟩ = some (.string (ss k))
theorem cell_of_below {B : Nat} {w w' : World} (h : Below B w w') {b o : Nat} (hb : b < B) : w'.cell? ⟨b, o, none⟩ = w.cell? ⟨b, o, none⟩ := h.cell (p := ⟨b, o, none⟩) hb
theorem IsStrs.below {w w' : World} (h : Below w.heap.size w w') {a : Option Addr} {n : Nat} {ss : Nat → ByteArray} (hp : IsStrs w a n ss) : IsStrs w' a n ss :=
  ⟨hp.le, fun k hk => let ⟨b, off, e, hb, hc⟩ := hp.at' k hk; ⟨b, off, e, Nat.lt_of_lt_of_le hb h.size, (cell_of_below h hb).trans hc⟩⟩
theorem IsStrs.nil {w : World} {a : Option Addr} {n : Nat} {ss : Nat → ByteArray} (h : IsStrs w a n ss) (e : a = none) : n = 0 := by
  by_cases h0 : n = 0
  · exact h0
  · obtain ⟨b, off, e', _⟩ := h.at' 0 (Nat.pos_of_ne_zero h0)
    rw [e] at e'
    cases e'
theorem below_box (w : World) (o : Obj) : Below w.heap.size w (w.alloc o) := (Below.refl _ _).alloc (Nat.le_refl _) _
def BoolStill (w : World) (e : Ending) (w' : World) : Prop := (∃ b, e = .returned (.bool b)) ∧ w' = w
theorem boolStill {w : World} (b : Bool) : BoolStill w (.returned (.bool b)) w := ⟨⟨b, rfl⟩, rfl⟩
def IntStill (w : World) (e : Ending) (w' : World) : Prop := (∃ n : Int, 0 ≤ n ∧ n ≤ 1048577 ∧ e = .returned (.int .i64 n)) ∧ w' = w
theorem intStill {w : World} (n : Int) (h0 : 0 ≤ n) (h1 : n ≤ 1048577) : IntStill w (.returned (.int .i64 n)) w := ⟨⟨n, h0, h1, rfl⟩, rfl⟩

set_option maxHeartbeats 2000000 in
theorem zz19 (a : Option Addr) (n c : Nat) (ss : Nat → ByteArray) (x : Bool) (s : ByteArray) (w : World) (h : IsStrs w a n ss) (hs : s.size ≤ maxLen) : Calls Try.prog 19 #[.slice a n c, .bool x, .string s] w (BoolStill w) := by
  have hl := h.le
  unfold maxLen at hs
  go_enter Try.func19, Try.ntmps19
  go_wp2
  any_goals (go_ret; exact boolStill _)
  go_loop [7, 8] (fun s i => ∃ (k : Nat) (z : Int), k ≤ n ∧ 0 ≤ z ∧ z ≤ 1048576 ∧ i = .int .i64 k ∧ s = .int .i64 z) (fun _ i => n - (intOf i).toNat)
  case atStart => exact ⟨0, _, Nat.zero_le _, by omega, by omega, rfl, rfl⟩
  case round =>
    obtain ⟨k, z, hk, hz0, hz1, rfl, rfl⟩ := hrel
    by_cases hlt : k < n
    · obtain ⟨b, off, rfl, hb', hp⟩ := h.at' k hlt
      go_wp2
      any_goals (go_ret; exact boolStill _)
      go_round
      case rel => exact ⟨k + 1, _, by omega, by omega, by omega, by go_num, rfl⟩
      case measure => simp [intOf]; omega
    · go_wp2
      all_goals (go_ret; exact boolStill _)

set_option maxHeartbeats 2000000 in
theorem zz17 (a : Option Addr) (n c : Nat) (ss : Nat → ByteArray) (x : Bool) (s : ByteArray) (w : World) (h : IsStrs w a n ss) (hs : s.size ≤ maxLen) : Calls Try.prog 17 #[.slice a n c, .bool x, .string s] w (BoolStill w) := by
  have hl := h.le
  unfold maxLen at hs
  go_enter Try.func17, Try.ntmps17
  go_wp2
  any_goals (go_ret; exact boolStill _)
  go_loop [7, 8] (fun s i => ∃ (k : Nat) (z : Int), k ≤ n ∧ 0 ≤ z ∧ z ≤ 1048576 ∧ i = .int .i64 k ∧ s = .int .i64 z) (fun _ i => n - (intOf i).toNat)
  case atStart => exact ⟨0, _, Nat.zero_le _, by omega, by omega, rfl, rfl⟩
  case round =>
    obtain ⟨k, z, hk, hz0, hz1, rfl, rfl⟩ := hrel
    by_cases hlt : k < n
    · obtain ⟨b, off, rfl, hb', hp⟩ := h.at' k hlt
      go_wp2
      any_goals (go_ret; exact boolStill _)
      go_round
      case rel => exact ⟨k + 1, _, by omega, by omega, by omega, by go_num, rfl⟩
      case measure => simp [intOf]; omega
    · go_wp2
      all_goals (go_ret; exact boolStill _)

set_option maxHeartbeats 1000000 in
theorem sb10 (a : Option Addr) (n c : Nat) (ss : Nat → ByteArray) (w : World) (h : IsStrs w a n ss) : Calls Try.prog 10 #[.slice a n c] w (IntStill w) := by
  have hl := h.le
  go_enter Try.func10, Try.ntmps10
  go_wp2
  go_loop [3, 4] (fun s i => ∃ (k : Nat) (z : Int), k ≤ n ∧ 0 ≤ z ∧ z ≤ 1048576 ∧ i = .int .i64 k ∧ s = .int .i64 z) (fun _ i => n - (intOf i).toNat)
  case atStart => exact ⟨0, _, Nat.zero_le _, by omega, by omega, rfl, rfl⟩
  case round =>
    obtain ⟨k, z, hk, hz0, hz1, rfl, rfl⟩ := hrel
    by_cases hlt : k < n
    · obtain ⟨b, off, rfl, hb', hp⟩ := h.at' k hlt
      go_wp2
      any_goals (go_ret; exact intStill _ (by decide) (by decide))
      go_round
      case rel => exact ⟨k + 1, _, by omega, by omega, by omega, by go_num, rfl⟩
      case measure => simp [intOf]; omega
    · go_wp2
      go_ret
      exact intStill _ (by omega) (by omega)

/-! ### A row of the call's own -/
def Bx (w : World) (b : Nat) (t : TypeId) (cs : Array Value) : Prop := w.heap[b]? = some (.cells cs t (0, 0))
theorem Bx.below {B b : Nat} {w w' : World} {t : TypeId} {cs : Array Value} (h : Bx w b t cs) (hb : Below B w w') (hB : b < B) : Bx w' b t cs := (hb.block b hB).trans h
theorem Bx.lt {b : Nat} {w : World} {t : TypeId} {cs : Array Value} (h : Bx w b t cs) : b < w.heap.size := by
  unfold Bx at h
  by_cases hlt : b < w.heap.size
  · exact hlt
  · rw [Array.getElem?_eq_none (by omega)] at h; cases h
theorem Bx.new (w : World) (t : TypeId) (cs : Array Value) : Bx (w.alloc (.cells cs t)) w.heap.size t cs := heap_alloc_new _ _
theorem wpList_make_lc {P : Program} {ops : Array Oper} {rest : List Oper} {o : Oper} {a : Act} {w : World} {Q : Exit → Act → World → Prop} (hg : o.guard = none) (lo co : Operand) (t : TypeId) (hop : o.op = Op.makeSlice t lo co)
    (e : TypeId) (i : TypeInfo) (z : Value) (h1 : P.underlying t = some (.slice e)) (h2 : P.info? e = some i) (h3 : i.zero = some z)
    (L C : Int) (l c : Nat) (hl : a.eval lo = .int .i64 L) (hc : a.eval co = .int .i64 C) (hL : L = (l : Int)) (hC : C = (c : Int)) (hlc : l ≤ c) (hb : (i.bytes : Int) * (c : Int) ≤ 281474976710656) (h63 : (c : Int) ≤ 9223372036854775807)
    (h : ∀ cs : Array Value, cs.size = c * i.size → wpList P ops Q rest (a.put o.dst (.slice (some ⟨w.heap.size, 0, none⟩) l c)) (w.alloc (.cells cs e))) : wpList P ops Q (o :: rest) a w := by
  refine wpList_plain hg fun K hK => ?_
  subst hL
  subst hC
  have hrun := run_make (P := P) w t e i z h1 h2 h3 .i64 .i64 (l : Int) (c : Int) (by omega) (by omega) hb h63
  simp only [Int.toNat_natCast] at hrun
  unfold Oper.wp
  simp [execOp, hop, hl, hc, hrun, Result.andThen]
  exact hK _ _ (h _ (by simp [madeCells]))
/-- A row at g, of cap strings, whose first k are those of ss; new since W. -/
structure Cop (W : World) (cap : Nat) (ss : Nat → ByteArray) (k : Nat) (wr : World) : Prop where
  bel : Below W.heap.size W wr
  st : ∃ cs, Bx wr W.heap.size 9 cs ∧ cs.size = cap ∧ ∀ j, j < k → cs[j]? = some (.string (ss j))
theorem Cop.start (W : World) (cs : Array Value) (ss : Nat → ByteArray) : Cop W cs.size ss 0 (W.alloc (.cells cs 9)) := ⟨below_box _ _, cs, Bx.new _ _ _, rfl, fun j hj => by omega⟩
theorem Cop.lt {W wr : World} {cap k : Nat} {ss : Nat → ByteArray} (h : Cop W cap ss k wr) : W.heap.size < wr.heap.size := by
  obtain ⟨_, cs, h2, _⟩ := h
  exact h2.lt
theorem Cop.there {W wr : World} {cap k : Nat} {ss : Nat → ByteArray} (h : Cop W cap ss k wr) {i : Nat} (hi : i < cap) : ∃ v, wr.cell? ⟨W.heap.size, i, none⟩ = some v := by
  obtain ⟨_, cs, h2, h3, _⟩ := h
  rw [cell_of_row _ _ _ _ _ _ h2]
  exact ⟨_, Array.getElem?_eq_getElem (by omega)⟩
theorem Cop.free {W wr : World} {cap k : Nat} {ss : Nat → ByteArray} (h : Cop W cap ss k wr) (i : Nat) : wr.frozen? ⟨W.heap.size, i, none⟩ = false := by
  obtain ⟨_, cs, h2, _⟩ := h
  exact frozen_of_row _ _ _ _ _ h2
theorem Cop.push {W wr : World} {cap k : Nat} {ss : Nat → ByteArray} (h : Cop W cap ss k wr) (hk : k < cap) : Cop W cap ss (k + 1) (wr.setCell ⟨W.heap.size, k, none⟩ (.string (ss k))) := by
  obtain ⟨h1, cs, h2, h3, h4⟩ := h
  refine ⟨h1.setCell (Nat.le_refl _) _, cs.setIfInBounds k (.string (ss k)), heap_setCell_same wr W.heap.size k cs 9 _ h2, by simpa using h3, fun j hj => ?_⟩
  rw [Array.getElem?_setIfInBounds]
  by_cases e : k = j
  · rw [if_pos e, if_pos (by omega), e]
  · rw [if_neg e]; exact h4 j (by omega)
theorem Cop.strs {W wr : World} {cap k : Nat} {ss : Nat → ByteArray} (h : Cop W cap ss k wr) (hk : k ≤ 9223372036854775807) : IsStrs wr (some ⟨W.heap.size, 0, none⟩) k ss := by
  have hlt := h.lt
  obtain ⟨h1, cs, h2, h3, h4⟩ := h
  exact ⟨hk, fun j hj => ⟨_, _, rfl, hlt, by rw [cell_of_row _ _ _ _ _ _ h2, Nat.zero_add]; exact h4 j hj⟩⟩
theorem info9 : (Try.prog.info? 9).map (fun i => (i.zero, i.size, i.bytes)) = some (some (.string ⟨#[]⟩), 1, 16) := by kernel_rfl

set_option maxHeartbeats 2000000 in
theorem clone11 (a : Option Addr) (n c : Nat) (ss : Nat → ByteArray) (w : World) (h : IsStrs w a n ss) (hn : n ≤ 65536) : Calls Try.prog 11 #[.slice a n c] w fun e w' => ∃ a' c', e = .returned (.slice a' n c') ∧ (a' = none ↔ a = none) ∧ IsStrs w' a' n ss ∧ Below w.heap.size w w' := by
  have heq := fun (w : World) (a : Option Addr) (n c : Nat) => Lib.run_eql_slice_nil (P := Try.prog) w 22 9 a n c 0 0 Try.underlying22
  obtain ⟨i9, hi9, hz9, hs9, hy9⟩ := info_parts info9
  cases a with
  | none =>
    obtain rfl : n = 0 := h.nil rfl
    go_enter Try.func11, Try.ntmps11
    go_wp2
    go_ret
    exact ⟨none, 0, rfl, by simp, ⟨by omega, fun k hk => by omega⟩, Below.refl _ _⟩
  | some aa =>
  go_enter Try.func11, Try.ntmps11
  go_wp2_with (at_make; go_loud (refine wpList_make_lc rfl (.tmp 8) (.tmp 8) 22 rfl 9 i9 _ Try.underlying22 hi9 hz9 _ _ n n rfl rfl rfl rfl (Nat.le_refl _) (by rw [hy9]; omega) (by omega) ?_; intro cs hcs))
  have hcs' : cs.size = n := by rw [hcs, hs9]; omega
  have C0 := Cop.start w cs ss
  rw [hcs'] at C0
  clear hcs hcs'
  go_loopw [4] (fun i wr => ∃ k : Nat, k ≤ n ∧ i = .int .i64 k ∧ Cop w n ss k wr) (fun i _ => n - (intOf i).toNat)
  case atStart => exact ⟨0, Nat.zero_le _, rfl, C0⟩
  case round =>
    clear C0 heq
    obtain ⟨k, hk, rfl, C⟩ := hrel
    by_cases hlt : k < n
    · obtain ⟨b, off, e, hb', hp⟩ := h.at' k hlt
      obtain rfl : aa = ⟨b, off, none⟩ := by simpa using e
      clear e
      have p0 := (cell_of_below C.bel hb').trans hp
      obtain ⟨v0, hv0⟩ := C.there hlt
      have f0 := C.free k
      have hlt' : (k : Int) < (n : Int) := by omega
      have HC : Hid (Cop w n ss (k + 1) (wr.setCell ⟨w.heap.size, k, none⟩ (.string (ss k)))) := C.push hlt
      clear C hp
      go_wp2
      go_roundw
      case rel => exact ⟨k + 1, by omega, by go_num, HC.out⟩
      case measure => simp [intOf]; omega
    · obtain rfl : k = n := by omega
      go_wp2
      go_ret
      exact ⟨_, _, rfl, by simp, C.strs (by omega), C.bel⟩

/-- How many comments are owed, plainly. -/
def owed (a : Option Addr) (n : Nat) (x : Bool) : Int := (if a.isNone = true then 1 else (n : Int)) + (if x = true then 1 else 0)
set_option maxHeartbeats 1000000 in
theorem owed25 (a : Option Addr) (n c : Nat) (x : Bool) (w : World) (hn : n ≤ 65537) : Calls Try.prog 25 #[.agg #[.slice a n c, .bool x]] w fun e w' => e = .returned (.int .i64 (owed a n x)) ∧ Below w.heap.size w w' := by
  have heq := fun (w : World) (a : Option Addr) (n c : Nat) => Lib.run_eql_slice_nil (P := Try.prog) w 22 9 a n c 0 0 Try.underlying22
  cases a with
  | none =>
    cases x
    all_goals
      go_enter Try.func25, Try.ntmps25
      go_wp2
      go_ret
      exact ⟨rfl, below_box _ _⟩
  | some aa =>
    cases x with
    | false =>
      have E : Hid (owed (some aa) n false = (n : Int)) := by show owed _ _ _ = _; simp [owed]
      generalize owed (some aa) n false = r at E ⊢
      go_enter Try.func25, Try.ntmps25
      go_wp2
      go_ret
      exact ⟨by rw [E.out]; rfl, below_box _ _⟩
    | true =>
      have E : Hid (owed (some aa) n true = (n : Int) + 1) := by show owed _ _ _ = _; simp [owed]
      generalize owed (some aa) n true = r at E ⊢
      go_enter Try.func25, Try.ntmps25
      go_wp2
      go_ret
      exact ⟨by rw [E.out]; rfl, below_box _ _⟩
theorem owed18 (a : Option Addr) (n c : Nat) (x : Bool) (w : World) (hn : n ≤ 65537) : Calls Try.prog 18 #[.agg #[.slice a n c, .bool x]] w fun e w' => e = .returned (.int .i64 (owed a n x)) ∧ Below w.heap.size w w' := by
  have hb := below_box w (.cells #[.slice a n c, .bool x] 40)
  have HC := owed25 a n c x (w.alloc (.cells #[.slice a n c, .bool x] 40)) hn
  generalize owed a n x = r at HC ⊢
  go_enter Try.func18, Try.ntmps18
  go_wp2_with (go_at_call 25; refine HC.mono ?_; rintro e w' ⟨rfl, hb2⟩)
  go_ret
  exact ⟨rfl, hb.trans (hb2.mono hb.size)⟩
end Go.Proofs.Qxb6601700a
