/-
  A map from strings to numbers that the call itself makes: its look-up and its store, at the model's own operations.
-/
import Derived.Test.Qxb6601324aCBase
import Derived.MapKept
namespace Go.Proofs.Qxb6601324a
open Go.RowKit
set_option linter.unusedSimpArgs false
set_option linter.unusedVariables false

theorem bb_iff (a b : ByteArray) : (a == b) = true ↔ a = b := by
  rw [beq_toListBytes, beq_iff_eq]
  exact ⟨bytes_toList_inj, fun h => by rw [h]⟩
theorem bb_self (a : ByteArray) : (a == a) = true := (bb_iff a a).2 rfl
theorem bb_ne {a b : ByteArray} (h : ¬ a = b) : (a == b) = false := by
  cases hx : a == b with
  | false => rfl
  | true => exact absurd ((bb_iff a b).1 hx) h
def keyIs (s : ByteArray) (e : MapEntry) : Bool := match e.key with | .string t => s == t | _ => false
def StrKeys (es : List MapEntry) : Prop := ∀ e ∈ es, ∃ t, e.key = .string t
def findI (s : ByteArray) : List MapEntry → Nat → Option (Nat × Value)
  | [], _ => none
  | e :: es, i => if keyIs s e = true then some (i, e.val) else findI s es (i + 1)
theorem findNow_eq (s : ByteArray) : ∀ (es : List MapEntry) (i : Nat), StrKeys es → Instr.findNow .string (.string s) es i = some (findI s es i)
  | [], i, _ => rfl
  | e :: es, i, h => by
    obtain ⟨t, ht⟩ := h e (by simp)
    have ih := findNow_eq s es (i + 1) (fun x hx => h x (by simp [hx]))
    unfold Instr.findNow findI keyIs
    rw [ht]
    show (match some (s == t) with | some true => some (some (i, e.val)) | some false => Instr.findNow .string (.string s) es (i + 1) | none => none) = _
    show _ = some (if (s == t) = true then some (i, e.val) else findI s es (i + 1))
    cases hst : s == t with
    | true => rfl
    | false => rw [if_neg (by decide)]; exact ih
theorem run_findKey (s : ByteArray) (es : List MapEntry) (w : World) (h : StrKeys es) : (Instr.findKey 9 (.string s) es).run Try.prog w = .ok (findI s es 0) w := by
  unfold Instr.findKey
  rw [Sem.run_bind, run_underlying Try.underlying9]
  simp only [Result.andThen_ok, findNow_eq s es 0 h]
  rfl
theorem run_ck (s : ByteArray) (b : Bool) (w : World) : (Instr.checkKey b 10000 9 (.string s)).run Try.prog w = .ok () w := by
  unfold Instr.checkKey
  rw [Sem.run_bind, run_underlying Try.underlying9]
  rfl
theorem zero59 (w : World) : (zeroValue 59).run Try.prog w = .ok (.agg #[.int .i64 0, .int .u64 0]) w := by kernel_rfl
def valV (r : Option (Nat × Value)) : Value := match r with | some (_, v) => v | none => .agg #[.int .i64 0, .int .u64 0]
theorem run_look (s : ByteArray) (b : Nat) (es : Array MapEntry) (clock : Nat) (w : World) (hb : w.heap[b]? = some (.map es clock)) (h : StrKeys es.toList) :
    (Instr.lookup 30 (.map (some b)) (.string s) true).run Try.prog w = .ok (.tuple #[valV (findI s es.toList 0), .bool (findI s es.toList 0).isSome]) w := by
  unfold Instr.lookup
  rw [Sem.run_bind, run_underlying Try.underlying30]
  simp only [Result.andThen_ok, Sem.run_bind, MapKept.run_getObj_map hb, Sem.run_pure, run_ck, run_findKey s es.toList w h]
  cases hf : findI s es.toList 0 with
  | none => simp [zero59, valV, Sem.run_bind]
  | some p => simp [valV, Sem.run_bind]
theorem run_look_nil (s : ByteArray) (w : World) :
    (Instr.lookup 30 (.map none) (.string s) true).run Try.prog w = .ok (.tuple #[.agg #[.int .i64 0, .int .u64 0], .bool false]) w := by
  unfold Instr.lookup
  rw [Sem.run_bind, run_underlying Try.underlying30]
  simp only [Result.andThen_ok, Sem.run_bind, Sem.run_pure, run_ck]
  have h := run_findKey s [] w (fun e he => by cases he)
  simp only [show (#[] : Array MapEntry).toList = [] from rfl, h, Result.andThen_ok]
  simp [findI, zero59, Sem.run_bind]
/-- The entries behind a store. -/
def putE (es : Array MapEntry) (clock : Nat) (s : ByteArray) (v : Value) : Array MapEntry :=
  match findI s es.toList 0 with
  | some (i, _) => es.modify i fun e => { e with key := .string s, val := v }
  | none => es.push { key := .string s, val := v, born := clock }
def clockE (es : Array MapEntry) (clock : Nat) (s : ByteArray) : Nat := match findI s es.toList 0 with | some _ => clock | none => clock + 1
theorem findI_ge (s : ByteArray) : ∀ (es : List MapEntry) (i j : Nat) (v : Value), findI s es i = some (j, v) → i ≤ j ∧ ∃ e, es[j - i]? = some e ∧ keyIs s e = true
  | [], i, j, v, h => by cases h
  | e :: es, i, j, v, h => by
    unfold findI at h
    by_cases hk : keyIs s e = true
    · rw [if_pos hk] at h
      cases h
      exact ⟨Nat.le_refl _, e, by simp, hk⟩
    · rw [if_neg hk] at h
      obtain ⟨h1, e', h2, h3⟩ := findI_ge s es (i + 1) j v h
      refine ⟨by omega, e', ?_, h3⟩
      rw [show j - i = (j - (i + 1)) + 1 by omega, List.getElem?_cons_succ]
      exact h2
theorem run_put (s : ByteArray) (v : Value) (b : Nat) (es : Array MapEntry) (clock : Nat) (w : World) (hb : w.heap[b]? = some (.map es clock)) (h : StrKeys es.toList) :
    (Instr.mapUpdate 30 (.map (some b)) (.string s) v).run Try.prog w = .ok () { w with heap := w.heap.setIfInBounds b (.map (putE es clock s v) (clockE es clock s)) } := by
  unfold Instr.mapUpdate
  rw [Sem.run_bind, run_underlying Try.underlying30]
  simp only [Result.andThen_ok, Sem.run_bind, MapKept.run_getObj_map hb, run_ck, run_findKey s es.toList w h]
  unfold putE clockE
  cases hf : findI s es.toList 0 with
  | none => simp [MapKept.run_setObj_map _ hb]
  | some p =>
    obtain ⟨j, x⟩ := p
    obtain ⟨_, e, he, hk⟩ := findI_ge s es.toList 0 j x hf
    have he' : es[j]? = some e := by rw [← Array.getElem?_toList]; simpa using he
    have hs : e.key = .string s := by
      unfold keyIs at hk
      split at hk
      · rename_i t ht
        rw [ht]
        rw [(bb_iff s t).1 hk]
      · cases hk
    have hsame : Instr.sameBits 10000 (.string s) (.string s) = true := by
      show (s == s) = true
      exact bb_self s
    simp [he', hs, Instr.keyThatStays, hsame, MapKept.run_setObj_map _ hb]

def valOf (s : ByteArray) (es : List MapEntry) (i : Nat) : Option Value := (findI s es i).map (·.2)
theorem valOf_shift (s : ByteArray) : ∀ (es : List MapEntry) (i j : Nat), valOf s es i = valOf s es j
  | [], _, _ => rfl
  | e :: es, i, j => by
    unfold valOf findI
    by_cases hk : keyIs s e = true
    · rw [if_pos hk, if_pos hk]; rfl
    · rw [if_neg hk, if_neg hk]; exact valOf_shift s es (i + 1) (j + 1)
theorem keyIs_mk (s' s : ByteArray) (v : Value) (n : Nat) : keyIs s' { key := .string s, val := v, born := n } = (s' == s) := rfl
theorem valOf_push (s s' : ByteArray) (v : Value) (c : Nat) : ∀ (es : List MapEntry) (i : Nat), findI s es i = none → valOf s' (es ++ [{ key := .string s, val := v, born := c }]) i = if s' = s then some v else valOf s' es i
  | [], i, _ => by
    by_cases e : s' = s
    · subst e
      simp [valOf, findI, keyIs_mk, bb_self]
    · simp [valOf, findI, keyIs_mk, e, bb_ne e]
  | e :: es, i, h => by
    unfold findI at h
    by_cases hk : keyIs s e = true
    · rw [if_pos hk] at h; cases h
    · rw [if_neg hk] at h
      have ih := valOf_push s s' v c es (i + 1) h
      show ((findI s' (e :: (es ++ _)) i).map (·.2)) = _
      unfold valOf at ih ⊢
      unfold findI
      by_cases hk' : keyIs s' e = true
      · rw [if_pos hk', if_pos hk', if_neg]
        rintro rfl; exact hk hk'
      · rw [if_neg hk', if_neg hk']
        exact ih
theorem valOf_modify (s s' : ByteArray) (v : Value) : ∀ (es : List MapEntry) (i j : Nat) (x : Value), findI s es i = some (j, x) → StrKeys es → valOf s' (es.modify (j - i) fun e => { e with key := .string s, val := v }) i = if s' = s then some v else valOf s' es i
  | [], i, j, x, h, _ => by cases h
  | e :: es, i, j, x, h, hs => by
    unfold findI at h
    by_cases hk : keyIs s e = true
    · rw [if_pos hk] at h
      cases h
      rw [Nat.sub_self]
      obtain ⟨t, ht⟩ := hs e (by simp)
      have hst : s = t := by unfold keyIs at hk; rw [ht] at hk; exact (bb_iff s t).1 hk
      show ((findI s' ({ e with key := .string s, val := v } :: es) i).map (·.2)) = _
      unfold valOf findI
      rw [show keyIs s' { e with key := .string s, val := v } = (s' == s) from rfl, show keyIs s' e = (s' == s) by unfold keyIs; rw [ht, hst]]
      by_cases e' : s' = s
      · subst e'; simp [bb_self]
      · simp [e', bb_ne e']
    · rw [if_neg hk] at h
      obtain ⟨h1, _⟩ := findI_ge s es (i + 1) j x h
      have ih := valOf_modify s s' v es (i + 1) j x h (fun y hy => hs y (by simp [hy]))
      rw [show j - i = (j - (i + 1)) + 1 by omega]
      show ((findI s' (e :: (es.modify (j - (i + 1)) _)) i).map (·.2)) = _
      unfold valOf at ih ⊢
      unfold findI
      by_cases hk' : keyIs s' e = true
      · rw [if_pos hk', if_pos hk', if_neg]
        rintro rfl; exact hk hk'
      · rw [if_neg hk', if_neg hk']
        exact ih
theorem valOf_put (s s' : ByteArray) (v : Value) (es : Array MapEntry) (clock : Nat) (h : StrKeys es.toList) : valOf s' (putE es clock s v).toList 0 = if s' = s then some v else valOf s' es.toList 0 := by
  unfold putE
  cases hf : findI s es.toList 0 with
  | none =>
    show valOf s' (es.push _).toList 0 = _
    rw [Array.toList_push]
    exact valOf_push s s' v clock es.toList 0 hf
  | some p =>
    obtain ⟨j, x⟩ := p
    show valOf s' (es.modify j _).toList 0 = _
    rw [Array.toList_modify]
    exact valOf_modify s s' v es.toList 0 j x hf h
theorem strKeys_put (s : ByteArray) (v : Value) (es : Array MapEntry) (clock : Nat) (h : StrKeys es.toList) : StrKeys (putE es clock s v).toList := by
  unfold putE
  cases hf : findI s es.toList 0 with
  | none =>
    show StrKeys (es.push _).toList
    rw [Array.toList_push]
    intro e he
    rcases List.mem_append.1 he with h1 | h1
    · exact h e h1
    · simp at h1; exact ⟨s, by rw [h1]⟩
  | some p =>
    obtain ⟨j, x⟩ := p
    show StrKeys (es.modify j _).toList
    rw [Array.toList_modify]
    intro e he
    obtain ⟨i, hi⟩ := List.mem_iff_getElem?.1 he
    rw [List.getElem?_modify] at hi
    cases hx : es.toList[i]? with
    | none => rw [hx] at hi; simp at hi
    | some e0 =>
      rw [hx] at hi
      by_cases hij : j = i
      · simp [hij] at hi; exact ⟨s, by rw [← hi]⟩
      · simp [hij] at hi; rw [← hi]; exact h e0 (List.mem_of_getElem? hx)
end Go.Proofs.Qxb6601324a
