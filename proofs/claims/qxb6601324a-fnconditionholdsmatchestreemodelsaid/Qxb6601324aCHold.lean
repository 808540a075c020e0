/-
  (Condition).holds: a stack of bools; what it answers.
-/
import Derived.Test.Qxb6601324aCCmp
import Derived.Test.Qxb6601324aCMake
namespace Go.Proofs.Qxb6601324a
open Go.RowKit
set_option linter.unusedSimpArgs false
set_option linter.unusedVariables false

/-! ### Plainly -/
def leaf (g : ByteArray → Option (Int × Int)) (t : Trm) : Bool := match g t.attr with | some p => cmpB t.op p (t.hi, t.lo) | none => false
/-- One term's doing to the stack (its top first). -/
def stepT (g : ByteArray → Option (Int × Int)) (t : Trm) (l : List Bool) : List Bool :=
  if t.op = 7 then (match l with | b :: a :: r => (a && b) :: r | _ => l)
  else if t.op = 8 then (match l with | b :: a :: r => (a || b) :: r | _ => l)
  else if t.op = 9 then (match l with | a :: r => (!a) :: r | _ => l)
  else leaf g t :: l
def stk (g : ByteArray → Option (Int × Int)) (ts : Nat → Trm) : Nat → List Bool
  | 0 => []
  | k + 1 => stepT g (ts k) (stk g ts k)
def hold (g : ByteArray → Option (Int × Int)) (ts : Nat → Trm) (n : Nat) : Bool := match (stk g ts n).reverse with | [] => true | b :: _ => b
theorem stk_length (g : ByteArray → Option (Int × Int)) (ts : Nat → Trm) : ∀ k d, dep ts k = some d → (stk g ts k).length = d
  | 0, d, h => by cases h; rfl
  | k + 1, d, h => by
    have h' : (dep ts k).bind (stepD (ts k).op) = some d := h
    cases hk : dep ts k with
    | none => rw [hk] at h'; cases h'
    | some d0 =>
      have ih := stk_length g ts k d0 hk
      rw [hk] at h'
      have h2 : stepD (ts k).op d0 = some d := h'
      show (stepT g (ts k) (stk g ts k)).length = d
      unfold stepD at h2
      unfold stepT
      by_cases o1 : (ts k).op < 1
      · rw [if_pos o1] at h2; cases h2
      rw [if_neg o1] at h2
      by_cases o9 : 9 < (ts k).op
      · rw [if_pos o9] at h2; cases h2
      rw [if_neg o9] at h2
      by_cases e7 : (ts k).op = 7
      · rw [if_pos e7] at h2 ⊢
        by_cases d2 : d0 < 2
        · rw [if_pos d2] at h2; cases h2
        · rw [if_neg d2] at h2
          cases h2
          match hs : stk g ts k with
          | b :: a :: r => rw [hs] at ih; simp at ih ⊢; omega
          | [x] => rw [hs] at ih; simp at ih; omega
          | [] => rw [hs] at ih; simp at ih; omega
      rw [if_neg e7] at h2 ⊢
      by_cases e8 : (ts k).op = 8
      · rw [if_pos e8] at h2 ⊢
        by_cases d2 : d0 < 2
        · rw [if_pos d2] at h2; cases h2
        · rw [if_neg d2] at h2
          cases h2
          match hs : stk g ts k with
          | b :: a :: r => rw [hs] at ih; simp at ih ⊢; omega
          | [x] => rw [hs] at ih; simp at ih; omega
          | [] => rw [hs] at ih; simp at ih; omega
      rw [if_neg e8] at h2 ⊢
      by_cases e9 : (ts k).op = 9
      · rw [if_pos e9] at h2 ⊢
        by_cases d1 : d0 < 1
        · rw [if_pos d1] at h2; cases h2
        · rw [if_neg d1] at h2
          cases h2
          match hs : stk g ts k with
          | a :: r => rw [hs] at ih; simp at ih ⊢; omega
          | [] => rw [hs] at ih; simp at ih; omega
      rw [if_neg e9] at h2 ⊢
      cases h2
      simp [ih]
theorem dep_some_of {ts : Nat → Trm} {n d : Nat} (h : dep ts n = some d) {k : Nat} (hk : k ≤ n) : ∃ d', dep ts k = some d' := by
  cases hd : dep ts k with
  | some d' => exact ⟨d', rfl⟩
  | none => rw [dep_none ts k hd n hk] at h; cases h
theorem step_of_dep {ts : Nat → Trm} {k d d' : Nat} (h : dep ts k = some d) (h' : dep ts (k + 1) = some d') : stepD (ts k).op d = some d' := by
  have h2 : (dep ts k).bind (stepD (ts k).op) = some d' := h'
  rw [h] at h2
  exact h2

/-! ### The stack in memory -/
def StkC (cs : Array Value) : List Bool → Prop
  | [] => True
  | b :: r => cs[r.length]? = some (.bool b) ∧ StkC cs r
theorem StkC.set {cs : Array Value} {i : Nat} (v : Value) : ∀ {l : List Bool}, StkC cs l → l.length ≤ i → StkC (cs.setIfInBounds i v) l
  | [], _, _ => trivial
  | b :: r, h, hi => by
    have hi' : r.length + 1 ≤ i := hi
    exact ⟨by rw [Array.getElem?_setIfInBounds, if_neg (by omega)]; exact h.1, StkC.set v h.2 (by omega)⟩
theorem StkC.bottom {cs : Array Value} {x : Bool} : ∀ {l : List Bool}, StkC cs (l ++ [x]) → cs[0]? = some (.bool x)
  | [], h => h.1
  | b :: r, h => StkC.bottom (l := r) h.2
structure HInv (w : World) (l : List Bool) (wr : World) : Prop where
  bel : Below w.heap.size w wr
  st : ∃ cs, Bx wr (w.heap.size + 1) 86 cs ∧ cs.size = 256 ∧ StkC cs l
theorem HInv.below {w wr w' : World} {l : List Bool} (h : HInv w l wr) (hb : Below wr.heap.size wr w') : HInv w l w' := by
  obtain ⟨h1, cs, h2, h3⟩ := h
  exact ⟨h1.trans (hb.mono h1.size), cs, h2.below hb h2.lt, h3⟩
theorem HInv.tail {w wr : World} {b : Bool} {l : List Bool} (h : HInv w (b :: l) wr) : HInv w l wr := by
  obtain ⟨h1, cs, h2, h3, h4⟩ := h
  exact ⟨h1, cs, h2, h3, h4.2⟩
theorem HInv.top {w wr : World} {b : Bool} {l : List Bool} (h : HInv w (b :: l) wr) : wr.cell? ⟨w.heap.size + 1, l.length, none⟩ = some (.bool b) := by
  obtain ⟨h1, cs, h2, h3, h4⟩ := h
  rw [cell_of_row _ _ _ _ _ _ h2]; exact h4.1
theorem HInv.lt {w wr : World} {l : List Bool} (h : HInv w l wr) : w.heap.size + 1 < wr.heap.size := by
  obtain ⟨_, cs, h2, _⟩ := h
  exact h2.lt
theorem HInv.there {w wr : World} {l : List Bool} (h : HInv w l wr) {i : Nat} (hi : i < 256) : ∃ v, wr.cell? ⟨w.heap.size + 1, i, none⟩ = some v := by
  obtain ⟨_, cs, h2, h3, _⟩ := h
  rw [cell_of_row _ _ _ _ _ _ h2]
  exact ⟨_, Array.getElem?_eq_getElem (by omega)⟩
theorem HInv.free {w wr : World} {l : List Bool} (h : HInv w l wr) (i : Nat) : wr.frozen? ⟨w.heap.size + 1, i, none⟩ = false := by
  obtain ⟨_, cs, h2, _⟩ := h
  exact frozen_of_row _ _ _ _ _ h2
theorem HInv.push {w wr : World} {l : List Bool} (h : HInv w l wr) (v : Bool) (hl : l.length < 256) : HInv w (v :: l) (wr.setCell ⟨w.heap.size + 1, l.length, none⟩ (.bool v)) := by
  obtain ⟨h1, cs, h2, h3, h4⟩ := h
  refine ⟨h1.setCell (by show w.heap.size ≤ w.heap.size + 1; omega) _, cs.setIfInBounds l.length (.bool v), ?_, by simpa using h3, ?_, h4.set _ (Nat.le_refl _)⟩
  · exact heap_setCell_same wr (w.heap.size + 1) l.length cs 86 (.bool v) h2
  · rw [Array.getElem?_setIfInBounds, if_pos rfl, if_pos (by omega)]

theorem zero86 : ∃ cs : Array Value, (∀ w, (zeroValue 86).run Try.prog w = .ok (.agg cs) w) ∧ cs.size = 256 :=
  ⟨Array.replicate 256 (.bool false), fun w => by kernel_rfl, by simp⟩
theorem wpList_alloc_any {P : Program} {ops : Array Oper} {rest : List Oper} {o : Oper} {a : Act} {w : World} {Q : Exit → Act → World → Prop} (hg : o.guard = none) (ty : TypeId) (ho : o.op = .alloc ty) (z : Value) (hz : ∀ w, (zeroValue ty).run P w = .ok z w)
    (h : wpList P ops Q rest (a.put o.dst (.pointer (some ⟨w.heap.size, 0, none⟩))) (w.alloc (.cells z.cells ty))) : wpList P ops Q (o :: rest) a w := by
  refine wpList_plain hg fun K hK => ?_
  unfold Oper.wp
  simp [execOp, ho, Instr.alloc, hz, newVar, newRow, newObj, Result.andThen]
  exact hK _ _ h

set_option maxHeartbeats 2000000 in
theorem hold27 (a : Option Addr) (n c : Nat) (ts : Nat → Trm) (m : Option Nat) (g : ByteArray → Option (Int × Int)) (d : Nat) (w : World) (h : IsTrms w a n ts) (hn : n ≤ 256) (hd : dep ts n = some d) (hg : Looks w m g) :
    Calls Try.prog 27 #[.agg #[.slice a n c], .map m] w fun e w' => e = .returned (.bool (hold g ts n)) ∧ Below w.heap.size w w' := by
  obtain ⟨zs, hz, hzs⟩ := zero86
  have H0 : HInv w [] ((w.alloc (.cells #[.slice a n c] 28)).alloc (.cells zs 86)) :=
    ⟨below_box2 _ _ _, zs, by have h := Bx.new (w.alloc (.cells #[.slice a n c] 28)) 86 zs; simpa using h, hzs, trivial⟩
  have hcc : ∀ X, ((w.alloc (.cells #[.slice a n c] 28)).alloc X).cell? ⟨w.heap.size, 0, none⟩ = some (.slice a n c) := fun X => cell_of_row _ _ 0 _ _ _ ((Bx.new w 28 #[.slice a n c]).alloc X)
  have HD : Hid (dep ts n = some d) := hd
  clear hd
  go_enter Try.func27, Try.ntmps27
  go_wp2_with (refine wpList_alloc_any rfl 86 rfl (.agg zs) hz ?_; simp only [Value.cells])
  go_loopw [6, 14] (fun nv i wr => ∃ k : Nat, k ≤ n ∧ i = .int .i64 k ∧ nv = .int .i64 (stk g ts k).length ∧ HInv w (stk g ts k) wr) (fun _ i _ => n - (intOf i).toNat)
  case atStart => exact ⟨0, Nat.zero_le _, rfl, rfl, H0⟩
  case round =>
    clear H0 hcc hz
    obtain ⟨k, hk, rfl, rfl, H⟩ := hrel
    by_cases hlt : k < n
    rotate_left
    · obtain rfl : k = n := by omega
      have hlen := stk_length g ts k d HD.out
      have hdl := dep_le ts k d HD.out
      have hsz := H.lt
      rcases List.eq_nil_or_concat (stk g ts k) with e | ⟨l', x, e⟩
      · have HR : Hid (hold g ts k = true) := by show hold g ts k = true; unfold hold; rw [e]; rfl
        rw [e] at H ⊢
        clear e hlen
        go_wp2
        go_ret
        exact ⟨by rw [HR.out]; rfl, H.bel⟩
      · have e' : stk g ts k = l' ++ [x] := by rw [e, List.concat_eq_append]
        have t0 : wr.cell? ⟨w.heap.size + 1, 0, none⟩ = some (.bool x) := by
          obtain ⟨_, cs, h2, h3, h4⟩ := H
          rw [cell_of_row _ _ _ _ _ _ h2]
          rw [e'] at h4
          exact StkC.bottom h4
        have HR : Hid (hold g ts k = x) := by show hold g ts k = x; unfold hold; rw [e']; simp
        have hb := H.bel
        have hne : ((((stk g ts k).length : Nat) : Int) == 0) = false := by rw [e']; simp; omega
        clear e e' hlen H
        generalize (stk g ts k).length = q at hne ⊢
        go_wp2
        go_ret
        exact ⟨by rw [HR.out]; rfl, hb⟩
    obtain ⟨b, off, rfl, hb', hp⟩ := h.at' k hlt
    obtain ⟨d0, hd0⟩ := dep_some_of HD.out (Nat.le_of_lt hlt)
    obtain ⟨d1, hd1⟩ := dep_some_of HD.out (show k + 1 ≤ n from hlt)
    have hst := step_of_dep hd0 hd1
    have hlen := stk_length g ts k d0 hd0
    have hdk := dep_le ts k d0 hd0
    have hnext : ∀ s, s = stk g ts (k + 1) → s = stepT g (ts k) (stk g ts k) := fun s hs => hs
    have hlt' : (k : Int) < (n : Int) := by omega
    obtain ⟨c0, c1, c2, c3⟩ := hp.below H.bel hb'
    generalize stk g ts k = l at H hlen hnext ⊢
    generalize ts k = t at c0 c1 c2 c3 hst hnext
    obtain ⟨o, at1, hi, lo⟩ := t
    simp only at c0 c1 c2 c3 hst hnext
    have HN : Hid (stk g ts (k + 1) = stepT g ⟨o, at1, hi, lo⟩ l) := hnext _ rfl
    clear hnext hd0 hd1 hp
    by_cases e7 : o = 7
    · subst e7
      obtain ⟨y, x, r, rfl⟩ : ∃ y x r, l = y :: x :: r := by
        unfold stepD at hst
        simp at hst
        match l, hlen with
        | y :: x :: r, _ => exact ⟨y, x, r, rfl⟩
        | [z], hlen => simp at hlen; omega
        | [], hlen => simp at hlen; omega
      simp only [List.length_cons] at hlen
      clear hst
      have hsz := H.lt
      have hr : r.length + 2 ≤ 256 := by omega
      have t1 : ∀ X, (wr.alloc X).cell? ⟨w.heap.size + 1, r.length + 1, none⟩ = some (.bool y) := fun X => (cell_of_below (below_box wr X) (by omega)).trans H.top
      have t0 : ∀ X, (wr.alloc X).cell? ⟨w.heap.size + 1, r.length, none⟩ = some (.bool x) := fun X => (cell_of_below (below_box wr X) (by omega)).trans H.tail.top
      have f0 : ∀ X, (wr.alloc X).frozen? ⟨w.heap.size + 1, r.length, none⟩ = false := fun X => (H.below (below_box wr X)).free _
      have HP : Hid (∀ X v, HInv w (v :: r) ((wr.setCell ⟨w.heap.size + 1, r.length, none⟩ (.bool v)).alloc X)) := fun X v => (H.tail.tail.push v (by omega)).below (below_box _ X)
      clear H hlen hdk
      cases x with
      | false =>
        have HN' : Hid (stk g ts (k + 1) = false :: r) := HN.out.trans (by simp [stepT])
        clear HN
        go_wp2
        go_roundw
        case rel => exact ⟨k + 1, by omega, by go_num, by rw [HN'.out]; simp, by rw [HN'.out]; exact HP.out _ _⟩
        case measure => simp [intOf]; omega
      | true =>
        have HN' : Hid (stk g ts (k + 1) = y :: r) := HN.out.trans (by simp [stepT])
        clear HN
        go_wp2
        go_roundw
        case rel => exact ⟨k + 1, by omega, by go_num, by rw [HN'.out]; simp, by rw [HN'.out]; exact HP.out _ _⟩
        case measure => simp [intOf]; omega
    by_cases e8 : o = 8
    · subst e8
      obtain ⟨y, x, r, rfl⟩ : ∃ y x r, l = y :: x :: r := by
        unfold stepD at hst
        simp at hst
        match l, hlen with
        | y :: x :: r, _ => exact ⟨y, x, r, rfl⟩
        | [z], hlen => simp at hlen; omega
        | [], hlen => simp at hlen; omega
      simp only [List.length_cons] at hlen
      clear hst
      have hsz := H.lt
      have hr : r.length + 2 ≤ 256 := by omega
      have t1 : ∀ X, (wr.alloc X).cell? ⟨w.heap.size + 1, r.length + 1, none⟩ = some (.bool y) := fun X => (cell_of_below (below_box wr X) (by omega)).trans H.top
      have t0 : ∀ X, (wr.alloc X).cell? ⟨w.heap.size + 1, r.length, none⟩ = some (.bool x) := fun X => (cell_of_below (below_box wr X) (by omega)).trans H.tail.top
      have f0 : ∀ X, (wr.alloc X).frozen? ⟨w.heap.size + 1, r.length, none⟩ = false := fun X => (H.below (below_box wr X)).free _
      have HP : Hid (∀ X v, HInv w (v :: r) ((wr.setCell ⟨w.heap.size + 1, r.length, none⟩ (.bool v)).alloc X)) := fun X v => (H.tail.tail.push v (by omega)).below (below_box _ X)
      clear H hlen hdk
      cases x with
      | true =>
        have HN' : Hid (stk g ts (k + 1) = true :: r) := HN.out.trans (by simp [stepT])
        clear HN
        go_wp2
        go_roundw
        case rel => exact ⟨k + 1, by omega, by go_num, by rw [HN'.out]; simp, by rw [HN'.out]; exact HP.out _ _⟩
        case measure => simp [intOf]; omega
      | false =>
        have HN' : Hid (stk g ts (k + 1) = y :: r) := HN.out.trans (by simp [stepT])
        clear HN
        go_wp2
        go_roundw
        case rel => exact ⟨k + 1, by omega, by go_num, by rw [HN'.out]; simp, by rw [HN'.out]; exact HP.out _ _⟩
        case measure => simp [intOf]; omega
    by_cases e9 : o = 9
    · subst e9
      obtain ⟨x, r, rfl⟩ : ∃ x r, l = x :: r := by
        unfold stepD at hst
        simp at hst
        match l, hlen with
        | x :: r, _ => exact ⟨x, r, rfl⟩
        | [], hlen => simp at hlen; omega
      simp only [List.length_cons] at hlen
      clear hst
      have hsz := H.lt
      have hr : r.length + 1 ≤ 256 := by omega
      have t0 : ∀ X, (wr.alloc X).cell? ⟨w.heap.size + 1, r.length, none⟩ = some (.bool x) := fun X => (cell_of_below (below_box wr X) (by omega)).trans H.top
      have f0 : ∀ X, (wr.alloc X).frozen? ⟨w.heap.size + 1, r.length, none⟩ = false := fun X => (H.below (below_box wr X)).free _
      have HP : Hid (∀ X v, HInv w (v :: r) ((wr.setCell ⟨w.heap.size + 1, r.length, none⟩ (.bool v)).alloc X)) := fun X v => (H.tail.push v (by omega)).below (below_box _ X)
      have HN' : Hid (stk g ts (k + 1) = (!x) :: r) := HN.out.trans (by simp [stepT])
      clear H hlen hdk HN
      go_wp2
      go_roundw
      case rel => exact ⟨k + 1, by omega, by go_num, by rw [HN'.out]; simp, by rw [HN'.out]; exact HP.out _ _⟩
      case measure => simp [intOf]; omega
    have hr : l.length < 256 := by omega
    have hsz := H.lt
    have HN' : Hid (stk g ts (k + 1) = leaf g ⟨o, at1, hi, lo⟩ :: l) := HN.out.trans (by simp [stepT, e7, e8, e9])
    have b7 : (o == 7) = false := by simpa using e7
    have b8 : (o == 8) = false := by simpa using e8
    have b9 : (o == 9) = false := by simpa using e9
    clear hst hlen hdk HN e7 e8 e9
    have hlk := fun X => hg (wr.alloc X) (H.bel.alloc H.bel.size X) at1
    cases hga : g at1 with
    | none =>
      have hlf : leaf g ⟨o, at1, hi, lo⟩ = false := by unfold leaf; rw [hga]
      rw [hlf] at HN'
      rw [hga] at hlk
      simp only [numV, Option.isSome_none] at hlk
      clear hga hlf
      obtain ⟨v0, hv0⟩ := H.there hr
      have t0 : ∀ X Y, ((wr.alloc X).alloc Y).cell? ⟨w.heap.size + 1, l.length, none⟩ = some v0 := fun X Y => (cell_of_below (below_box2 wr X Y) (by omega)).trans hv0
      have f0 : ∀ X Y, ((wr.alloc X).alloc Y).frozen? ⟨w.heap.size + 1, l.length, none⟩ = false := fun X Y => (H.below (below_box2 wr X Y)).free _
      have HP : Hid (∀ X Y v, HInv w (v :: l) (((wr.alloc X).alloc Y).setCell ⟨w.heap.size + 1, l.length, none⟩ (.bool v))) := fun X Y v => (H.below (below_box2 _ X Y)).push v hr
      clear H hv0
      go_wp2
      go_roundw
      case rel => exact ⟨k + 1, by omega, by go_num, by rw [HN'.out]; simp, by rw [HN'.out]; exact HP.out _ _ _⟩
      case measure => simp [intOf]; omega
    | some p =>
      obtain ⟨ph, pl⟩ := p
      have hlf : leaf g ⟨o, at1, hi, lo⟩ = cmpB o (ph, pl) (hi, lo) := by unfold leaf; rw [hga]
      rw [hlf] at HN'
      rw [hga] at hlk
      simp only [numV, numP, Option.isSome_some] at hlk
      clear hga hlf
      go_wp2_with fail
      refine (cmp39 _ _ _ _ _ _).mono ?_
      rintro e w2 ⟨rfl, hb2⟩
      have H2 := (H.below (below_box2 wr _ _)).below hb2
      clear H hlk hb2
      obtain ⟨v0, hv0⟩ := H2.there hr
      have f0 := H2.free l.length
      have HP : Hid (∀ v, HInv w (v :: l) (w2.setCell ⟨w.heap.size + 1, l.length, none⟩ (.bool v))) := fun v => H2.push v hr
      generalize cmpB o (ph, pl) (hi, lo) = rb at HN' ⊢
      clear H2
      go_wp2
      go_roundw
      case rel => exact ⟨k + 1, by omega, by go_num, by rw [HN'.out]; simp, by rw [HN'.out]; exact HP.out _⟩
      case measure => simp [intOf]; omega
end Go.Proofs.Qxb6601324a
