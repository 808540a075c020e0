/-
  makeAttrs: the attributes in a map of the call's own; what a look-up gives.
-/
import Derived.Test.Qxb6601324aCMap
namespace Go.Proofs.Qxb6601324a
open Go.RowKit
set_option linter.unusedSimpArgs false
set_option linter.unusedVariables false

/-- The value of the attribute s among the first k: the last entry wins. -/
def lastA (qs : Nat → Att) (s : ByteArray) : Nat → Option (Int × Int)
  | 0 => none
  | k + 1 => if s = (qs k).nm then some ((qs k).hi, (qs k).lo) else lastA qs s k
def numP (p : Int × Int) : Value := .agg #[.int .i64 p.1, .int .u64 p.2]
def numV (r : Option (Int × Int)) : Value := match r with | some p => numP p | none => .agg #[.int .i64 0, .int .u64 0]
def Looks (w : World) (m : Option Nat) (g : ByteArray → Option (Int × Int)) : Prop :=
  ∀ w', Below w.heap.size w w' → ∀ s, (Instr.lookup 30 (.map m) (.string s) true).run Try.prog w' = .ok (.tuple #[numV (g s), .bool (g s).isSome]) w'
theorem Looks.below {w w' : World} {m : Option Nat} {g : ByteArray → Option (Int × Int)} (h : Looks w m g) (hb : Below w.heap.size w w') : Looks w' m g :=
  fun w2 h2 s => h w2 (hb.trans (h2.mono hb.size)) s
theorem looks_nil (w : World) (qs : Nat → Att) : Looks w none (fun s => lastA qs s 0) := fun w' _ s => run_look_nil s w'
/-- Block b of w is a map that holds the first k attributes. -/
def MapIs (w : World) (b : Nat) (qs : Nat → Att) (k : Nat) : Prop := ∃ es clock, w.heap[b]? = some (.map es clock) ∧ StrKeys es.toList ∧ ∀ s, valOf s es.toList 0 = (lastA qs s k).map numP
theorem MapIs.lt {w : World} {b k : Nat} {qs : Nat → Att} (h : MapIs w b qs k) : b < w.heap.size := by
  obtain ⟨es, clock, hb, _⟩ := h
  by_cases hlt : b < w.heap.size
  · exact hlt
  · rw [Array.getElem?_eq_none (by omega)] at hb; cases hb
theorem MapIs.looks {w : World} {b k : Nat} {qs : Nat → Att} (h : MapIs w b qs k) : Looks w (some b) (fun s => lastA qs s k) := by
  intro w' hb s
  have hlt := h.lt
  obtain ⟨es, clock, he, hk, hv⟩ := h
  rw [run_look s b es clock w' ((hb.block b hlt).trans he) hk]
  have hs := hv s
  unfold valOf at hs
  cases hf : findI s es.toList 0 with
  | none =>
    rw [hf] at hs
    cases hl : lastA qs s k with
    | none => simp [valV, numV, hl]
    | some p => rw [hl] at hs; cases hs
  | some p =>
    rw [hf] at hs
    cases hl : lastA qs s k with
    | none => rw [hl] at hs; cases hs
    | some q =>
      rw [hl] at hs
      obtain ⟨j, v⟩ := p
      simp at hs
      simp [valV, numV, hs, hl]
def putW (w : World) (b : Nat) (es : Array MapEntry) (clock : Nat) (s : ByteArray) (v : Value) : World := { w with heap := w.heap.setIfInBounds b (.map (putE es clock s v) (clockE es clock s)) }
theorem below_putW {B : Nat} {a w : World} {b : Nat} (h : Below B a w) (hB : B ≤ b) (es : Array MapEntry) (clock : Nat) (s : ByteArray) (v : Value) : Below B a (putW w b es clock s v) :=
  h.trans ⟨rfl, rfl, rfl, by simp [putW], fun k hk => by show (w.heap.setIfInBounds b _)[k]? = _; rw [Array.getElem?_setIfInBounds, if_neg (by omega)]⟩
theorem mapIs_put {w : World} {b k : Nat} {qs : Nat → Att} {es : Array MapEntry} {clock : Nat} (he : w.heap[b]? = some (.map es clock)) (hk : StrKeys es.toList) (hv : ∀ s, valOf s es.toList 0 = (lastA qs s k).map numP) :
    MapIs (putW w b es clock (qs k).nm (.agg #[.int .i64 (qs k).hi, .int .u64 (qs k).lo])) b qs (k + 1) := by
  have hlt : b < w.heap.size := by
    by_cases hlt : b < w.heap.size
    · exact hlt
    · rw [Array.getElem?_eq_none (by omega)] at he; cases he
  refine ⟨putE es clock (qs k).nm (.agg #[.int .i64 (qs k).hi, .int .u64 (qs k).lo]), clockE es clock (qs k).nm, ?_, strKeys_put _ _ es clock hk, fun s => ?_⟩
  · show (w.heap.setIfInBounds b _)[b]? = _
    rw [Array.getElem?_setIfInBounds, if_pos rfl, if_pos hlt]
  · rw [valOf_put _ s _ es clock hk]
    unfold lastA
    by_cases e : s = (qs k).nm
    · rw [if_pos e, if_pos e]; rfl
    · rw [if_neg e, if_neg e]; exact hv s
theorem mkn30 (hi lo : Int) (w : World) : Calls Try.prog 30 #[.int .i64 hi, .int .u64 lo] w fun e w' => e = .returned (.agg #[.int .i64 hi, .int .u64 lo]) ∧ w.alloc (.cells #[.int .i64 hi, .int .u64 lo] 59) = w' := by
  go_enter Try.func30, Try.ntmps30
  go_wp2
  exact bodyPost_ret (v := .agg #[.int .i64 hi, .int .u64 lo]) (by simp [results, Try.results30, go_sem]) rfl ⟨rfl, rfl⟩

set_option maxRecDepth 10000 in
set_option maxHeartbeats 2000000 in
theorem mka12 (a : Option Addr) (n c : Nat) (qs : Nat → Att) (w : World) (h : IsAtts w a n qs) :
    Calls Try.prog 12 #[.slice a n c] w fun e w' => ∃ m, e = .returned (.map m) ∧ Looks w' m (fun s => lastA qs s n) ∧ Below w.heap.size w w' := by
  have hl := h.le
  have heq := fun (w : World) (a : Option Addr) (n c : Nat) => Lib.run_eql_slice_nil (P := Try.prog) w 23 51 a n c 0 0 Try.underlying23
  cases a with
  | none =>
    have h0 : n = 0 := by
      by_cases h0 : n = 0
      · exact h0
      · obtain ⟨b, off, e, _⟩ := h.at' 0 (Nat.pos_of_ne_zero h0); cases e
    subst h0
    go_enter Try.func12, Try.ntmps12
    go_wp2
    go_ret
    exact ⟨_, rfl, looks_nil w qs, Below.refl _ _⟩
  | some aa =>
  have hmm := @run_makeMap Try.prog
  have M0 : MapIs (w.alloc (.map #[] 0)) w.heap.size qs 0 := ⟨#[], 0, heap_alloc_new _ _, (fun e he => nomatch he), fun s => rfl⟩
  go_enter Try.func12, Try.ntmps12
  go_wp2
  go_loopw [10] (fun i wr => ∃ k : Nat, k ≤ n ∧ i = .int .i64 k ∧ MapIs wr w.heap.size qs k ∧ Below w.heap.size w wr) (fun i _ => n - (intOf i).toNat)
  case atStart => exact ⟨0, Nat.zero_le _, rfl, M0, below_box _ _⟩
  case round =>
    clear M0 hmm
    obtain ⟨k, hk, rfl, M, bel⟩ := hrel
    by_cases hlt : k < n
    · obtain ⟨b, off, e, hb', hp⟩ := h.at' k hlt
      obtain rfl : aa = ⟨b, off, none⟩ := by simpa using e
      clear e
      have hlt' : (k : Int) < (n : Int) := by omega
      have hS : ∀ w' : World, Below w.heap.size w w' → w'.cell? ⟨b, off + k * 3, none⟩ = some (.string (qs k).nm) ∧ w'.cell? ⟨b, off + k * 3 + 1, none⟩ = some (.int .i64 (qs k).hi) ∧ w'.cell? ⟨b, off + k * 3 + 2, none⟩ = some (.int .u64 (qs k).lo) := fun w' hb =>
        let q := hp.below hb hb'
        ⟨q.c0, q.c1, q.c2⟩
      have HS : Hid _ := hS
      clear hS
      have hM := M.lt
      obtain ⟨es, clock, he, hk', hv⟩ := M
      have hput : ∀ X, (Instr.mapUpdate 30 (.map (some w.heap.size)) (.string (qs k).nm) (.agg #[.int .i64 (qs k).hi, .int .u64 (qs k).lo])).run Try.prog (wr.alloc X).drew = .ok () (putW (wr.alloc X).drew w.heap.size es clock (qs k).nm (.agg #[.int .i64 (qs k).hi, .int .u64 (qs k).lo])) := fun X =>
        run_put _ _ _ es clock (wr.alloc X).drew ((heap_alloc_old wr X hM).trans he) hk'
      have HM : Hid (∀ X, MapIs (putW (wr.alloc X).drew w.heap.size es clock (qs k).nm (.agg #[.int .i64 (qs k).hi, .int .u64 (qs k).lo])) w.heap.size qs (k + 1)) := fun X =>
        mapIs_put ((heap_alloc_old wr X hM).trans he) hk' hv
      have HB : Hid (∀ X, Below w.heap.size w (putW (wr.alloc X).drew w.heap.size es clock (qs k).nm (.agg #[.int .i64 (qs k).hi, .int .u64 (qs k).lo]))) := fun X =>
        below_putW (bel.alloc bel.size X).drew (Nat.le_refl _) _ _ _ _
      clear he hk' hv
      go_wp2
      go_region_held3 (fun w' => w'.cell? ⟨b, off + k * 3, none⟩ = some (.string (qs k).nm) ∧ w'.cell? ⟨b, off + k * 3 + 1, none⟩ = some (.int .i64 (qs k).hi) ∧ w'.cell? ⟨b, off + k * 3 + 2, none⟩ = some (.int .u64 (qs k).lo)) (first | exact HS.out _ bel.drew | exact HS.out _ (bel.alloc bel.size _).drew | exact HS.out _ (HB.out _))
        (first | (go_at_call 30; refine (mkn30 _ _ _).mono ?_; rintro e w' ⟨rfl, rfl⟩))
      go_wp2
      go_roundw
      case rel => exact ⟨k + 1, by omega, by go_num, HM.out _, HB.out _⟩
      case measure => simp [intOf]; omega
    · obtain rfl : k = n := by omega
      go_wp2
      go_ret
      exact ⟨_, rfl, M.looks, bel⟩

end Go.Proofs.Qxb6601324a
