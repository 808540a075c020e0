/-
  A record of comments as it lies in memory; acknowledgementsOf over it.
-/
import Derived.Test.Qxb6601700aOLaw6
namespace Go.Proofs.Qxb6601700a
open Go.RowKit
set_option linter.unusedSimpArgs false
set_option linter.unusedVariables false

/-- A comment: its task, and whether it is an acknowledgement. -/
abbrev Cm := ByteArray × Bool
def cmCells (p : Cm) : List Value := [.string ⟨#[75, 69, 89, 45, 49]⟩, .string p.1, .bool p.2, .int .i64 0]
def recCells (L : List Cm) : List Value := L.flatMap cmCells
theorem recCells_length (L : List Cm) : (recCells L).length = L.length * 4 := by
  induction L with
  | nil => rfl
  | cons p L ih => simp [recCells, cmCells] at ih ⊢; omega
theorem recCells_snoc (L : List Cm) (p : Cm) : recCells L ++ cmCells p = recCells (L ++ [p]) := by simp [recCells]
theorem recCells_at (L : List Cm) (k : Nat) (p : Cm) (h : L[k]? = some p) : (recCells L)[k * 4]? = some (.string ⟨#[75, 69, 89, 45, 49]⟩) ∧ (recCells L)[k * 4 + 1]? = some (.string p.1) ∧ (recCells L)[k * 4 + 2]? = some (.bool p.2) ∧ (recCells L)[k * 4 + 3]? = some (.int .i64 0) := by
  induction L generalizing k with
  | nil => simp at h
  | cons q L ih =>
    cases k with
    | zero => simp at h; subst h; simp [recCells, cmCells]
    | succ k =>
      have h' := ih k (by simpa using h)
      have e : ∀ i, (recCells (q :: L))[(k + 1) * 4 + i]? = (recCells L)[k * 4 + i]? := by
        intro i
        have : (k + 1) * 4 + i = (k * 4 + i) + 1 + 1 + 1 + 1 := by omega
        rw [this]
        simp [recCells, cmCells]
      have e0 := e 0
      simp only [Nat.add_zero] at e0
      rw [e0, e 1, e 2, e 3]
      exact h'
/-- The record's cells, at a row. -/
structure IsRec (w : World) (g : Nat) (L : List Cm) : Prop where
  le : L.length ≤ 65538
  lt : g < w.heap.size
  at' : ∀ k p, L[k]? = some p → w.cell? ⟨g, k * 4, none⟩ = some (.string ⟨#[75, 69, 89, 45, 49]⟩) ∧ w.cell? ⟨g, k * 4 + 1, none⟩ = some (.string p.1) ∧ w.cell? ⟨g, k * 4 + 2, none⟩ = some (.bool p.2) ∧ w.cell? ⟨g, k * 4 + 3, none⟩ = some (.int .i64 0)
theorem IsRec.below {w w' : World} {g : Nat} {L : List Cm} (h : IsRec w g L) (hb : Below w.heap.size w w') : IsRec w' g L :=
  ⟨h.le, Nat.lt_of_lt_of_le h.lt hb.size, fun k p hp => by
    have := h.at' k p hp
    rw [cell_of_below hb h.lt, cell_of_below hb h.lt, cell_of_below hb h.lt, cell_of_below hb h.lt]
    exact this⟩
def hasTask (s : ByteArray) : Bool := !s.toList.isEmpty
def ackStep (st : Nat × Bool) (p : Cm) : Nat × Bool := if p.2 = true then (st.1 + 1, st.2) else if hasTask p.1 = true ∧ st.1 = 0 then (st.1, true) else st
def acks (L : List Cm) : Nat × Bool := L.foldl ackStep (0, false)
theorem acks_snoc (L : List Cm) (p : Cm) : acks (L ++ [p]) = ackStep (acks L) p := by simp [acks]
theorem ackStep_ack (m : Nat) (v : Bool) (t : ByteArray) : ackStep (m, v) (t, true) = (m + 1, v) := rfl
theorem ackStep_empty (m : Nat) (v : Bool) (t : ByteArray) (h : t.toList = []) : ackStep (m, v) (t, false) = (m, v) := by simp [ackStep, hasTask, h]
theorem ackStep_first (v : Bool) (t : ByteArray) (h : ¬ t.toList = []) : ackStep (0, v) (t, false) = (0, true) := by simp [ackStep, hasTask, h]
theorem ackStep_late (m : Nat) (v : Bool) (t : ByteArray) (h : ¬ m = 0) : ackStep (m, v) (t, false) = (m, v) := by simp [ackStep, h]
theorem acks_le (L : List Cm) : (acks L).1 ≤ L.length := by
  have : ∀ (L : List Cm) (st : Nat × Bool), (L.foldl ackStep st).1 ≤ st.1 + L.length := by
    intro L
    induction L with
    | nil => intro st; simp
    | cons p L ih =>
      intro st
      have h := ih (ackStep st p)
      have h2 : (ackStep st p).1 ≤ st.1 + 1 := by unfold ackStep; split <;> (try split) <;> simp
      simp only [List.foldl_cons, List.length_cons]
      omega
  have h := this L (0, false)
  simpa [acks] using h
theorem take_snoc (L : List Cm) (k : Nat) (p : Cm) (h : L[k]? = some p) : L.take (k + 1) = L.take k ++ [p] := by
  rw [List.take_add_one, h]; rfl

set_option maxRecDepth 10000 in
set_option maxHeartbeats 2000000 in
theorem ack24 (g c : Nat) (L : List Cm) (w : World) (h : IsRec w g L) : Calls Try.prog 24 #[.slice (some ⟨g, 0, none⟩) L.length c] w fun e w' => e = .returned (.tuple #[.int .i64 (acks L).1, .bool (acks L).2]) ∧ Below w.heap.size w w' := by
  have hle := h.le
  go_enter Try.func24, Try.ntmps24
  go_wp2
  go_loopw [4, 5, 10] (fun u v i wr => ∃ k : Nat, k ≤ L.length ∧ i = .int .i64 k ∧ u = .int .i64 (acks (L.take k)).1 ∧ v = .bool (acks (L.take k)).2 ∧ Below w.heap.size w wr) (fun _ _ i _ => L.length - (intOf i).toNat)
  case atStart => exact ⟨0, Nat.zero_le _, rfl, by simp [acks], by simp [acks], Below.refl _ _⟩
  case round =>
    obtain ⟨k, hk, rfl, rfl, rfl, hb⟩ := hrel
    by_cases hlt : k < L.length
    · obtain ⟨p, hp⟩ : ∃ p, L[k]? = some p := ⟨_, List.getElem?_eq_getElem hlt⟩
      obtain ⟨p0, p1, p2, p3⟩ := (h.below hb).at' k p hp
      have hal := acks_le (L.take k)
      simp only [List.length_take] at hal
      have HS : Hid (acks (L.take (k + 1)) = ackStep (acks (L.take k)) p) := by show acks _ = _; rw [take_snoc L k p hp]; exact acks_snoc _ _
      have HB : Hid (Below w.heap.size w wr) := hb
      clear hb
      obtain ⟨t, ak⟩ := p
      dsimp only at p1 p2
      generalize acks (L.take k) = st at HS hal ⊢
      obtain ⟨m, v⟩ := st
      dsimp only at hal ⊢
      have hlt' : (k : Int) < (L.length : Int) := by omega
      have hg := (h.below HB.out).lt
      cases ak with
      | true =>
        rw [ackStep_ack] at HS
        go_wp2
        go_roundw
        case rel => exact ⟨k + 1, by omega, by go_num, by rw [HS.out]; (try rfl); (try go_num), by rw [HS.out], HB.out.alloc HB.out.size _⟩
        case measure => simp [intOf]; omega
      | false =>
        by_cases ht : t.toList = []
        · rw [ackStep_empty _ _ _ ht] at HS
          go_wp2
          go_roundw
          case rel => exact ⟨k + 1, by omega, by go_num, by rw [HS.out]; (try rfl); (try go_num), by rw [HS.out], HB.out.alloc HB.out.size _⟩
          case measure => simp [intOf]; omega
        · by_cases hm : m = 0
          · subst hm
            rw [ackStep_first _ _ ht] at HS
            have hbt : (!t.toList.isEmpty) = true := by simpa using ht
            go_wp2
            go_roundw
            case rel => exact ⟨k + 1, by omega, by go_num, by rw [HS.out]; (try rfl); (try go_num), by rw [HS.out], HB.out.alloc HB.out.size _⟩
            case measure => simp [intOf]; omega
          · rw [ackStep_late _ _ _ hm] at HS
            have hm' : ((m : Int) == 0) = false := by simp; omega
            go_wp2
            go_roundw
            case rel => exact ⟨k + 1, by omega, by go_num, by rw [HS.out]; (try rfl); (try go_num), by rw [HS.out], HB.out.alloc HB.out.size _⟩
            case measure => simp [intOf]; omega
    · obtain rfl : k = L.length := by omega
      go_wp2
      go_ret2
      simp only [List.take_length]
      exact ⟨rfl, hb⟩

theorem ack15 (g c : Nat) (L : List Cm) (w : World) (h : IsRec w g L) : Calls Try.prog 15 #[.slice (some ⟨g, 0, none⟩) L.length c] w fun e w' => e = .returned (.tuple #[.int .i64 (acks L).1, .bool (acks L).2]) ∧ Below w.heap.size w w' := by
  have HC := ack24 g c L w h
  generalize acks L = r at HC ⊢
  obtain ⟨m, v⟩ := r
  dsimp only at HC ⊢
  go_enter Try.func15, Try.ntmps15
  go_wp2_with (go_at_call 24; refine HC.mono ?_; rintro e w' ⟨rfl, hb2⟩)
  go_ret2
  exact ⟨rfl, hb2⟩
end Go.Proofs.Qxb6601700a
