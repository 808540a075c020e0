/-
  lookup, satisfies, evalAt, modelHolds: what they answer.
-/
import Derived.Test.Qxb6601324aMOrder
import Derived.Test.Qxb6601324aCHold
import Derived.Deep.QuietTactic
import Derived.BigQuiet
namespace Go.Proofs.Qxb6601324a
open Go.RowKit
set_option linter.unusedSimpArgs false
set_option linter.unusedVariables false

def lkV (r : Option (Int × Int)) : Value := match r with | some p => .tuple #[.int .i64 p.1, .int .u64 p.2, .bool true] | none => .tuple #[.int .i64 0, .int .u64 0, .bool false]
theorem below_drewNM {B : Nat} {a w : World} (h : Below B a w) : ∀ n, Below B a (w.drewN n)
  | 0 => h
  | n + 1 => (below_drewNM h n).drew

set_option maxHeartbeats 1000000 in
theorem look44 (a : Option Addr) (n c : Nat) (qs : Nat → Att) (s : ByteArray) (w : World) (h : IsAtts w a n qs) : Calls Try.prog 44 #[.slice a n c, .string s] w fun e w' => e = .returned (lkV (lastA qs s n)) ∧ Below w.heap.size w w' := by
  have hl := h.le
  have HN : Hid (lastA qs s n = none → Ending.returned (Value.tuple #[.int .i64 0, .int .u64 0, .bool false]) = .returned (lkV (lastA qs s n))) := fun e => by rw [e]; rfl
  have HS : Hid (∀ p, lastA qs s n = some p → Ending.returned (Value.tuple #[.int .i64 p.1, .int .u64 p.2, .bool true]) = .returned (lkV (lastA qs s n))) := fun p e => by rw [e]; rfl
  generalize lkV (lastA qs s n) = V at HN HS ⊢
  go_enter Try.func44, Try.ntmps44
  go_wp2
  go_loop [7] (fun i => (i = .int .i64 (-1) ∧ lastA qs s n = none) ∨ ∃ j : Nat, j < n ∧ i = .int .i64 j ∧ lastA qs s n = lastA qs s (j + 1)) (fun i => (intOf i + 1).toNat)
  case atStart =>
    by_cases h0 : n = 0
    · subst h0; exact Or.inl ⟨rfl, rfl⟩
    · refine Or.inr ⟨n - 1, by omega, ?_, by rw [show n - 1 + 1 = n by omega]⟩
      rw [show ((n - 1 : Nat) : Int) = (n : Int) - 1 by omega]
  case round =>
    rcases hrel with ⟨rfl, hno⟩ | ⟨j, hj, rfl, hjs⟩
    · have HR := HN.out hno
      clear HN HS hno
      go_wp2
      go_ret3
      exact ⟨HR, Below.refl _ _⟩
    · obtain ⟨b, off, rfl, hb, c0, c1, c2⟩ := h.at' j hj
      have hj' : (j : Int) < (n : Int) := by omega
      by_cases e : s = (qs j).nm
      · have HR := HS.out ((qs j).hi, (qs j).lo) (by rw [hjs]; unfold lastA; rw [if_pos e])
        have eb : ((qs j).nm.toList == s.toList) = true := by rw [e]; simp
        simp only at HR
        clear HN HS hjs e
        go_wp2
        go_quiet (fail)
        go_wp2
        go_ret3
        exact ⟨HR, below_drewNM (Below.refl _ _) _⟩
      · have eb : ((qs j).nm.toList == s.toList) = false := by
          cases hx : (qs j).nm.toList == s.toList with
          | false => rfl
          | true => exact absurd (bytes_toList_inj (by simpa using hx)).symm e
        have HJ : Hid (lastA qs s n = lastA qs s j) := hjs.trans (by show lastA qs s (j + 1) = _; unfold lastA; rw [if_neg e]; cases j <;> rfl)
        clear hjs e
        go_wp2
        go_round
        case rel =>
          by_cases h0 : j = 0
          · subst h0; exact Or.inl ⟨rfl, HJ.out⟩
          · refine Or.inr ⟨j - 1, by omega, ?_, by rw [show j - 1 + 1 = j by omega]; exact HJ.out⟩
            rw [show ((j - 1 : Nat) : Int) = (j : Int) - 1 by omega]
        case measure => simp [intOf]

def satB (op c : Int) : Bool := if op = 1 then decide (c < 0) else if op = 2 then decide (c ≤ 0) else if op = 3 then decide (0 < c) else if op = 4 then decide (0 ≤ c) else if op = 5 then c == 0 else !(c == 0)
theorem satB_ord (op : Int) (p q : Int × Int) : satB op (ordB p q) = cmpB op p q := by
  obtain ⟨a, b⟩ := p
  obtain ⟨c, d⟩ := q
  have key : (lessB (a, b) (c, d) = true ∧ lessB (c, d) (a, b) = false ∧ eqB (a, b) (c, d) = false) ∨ (lessB (a, b) (c, d) = false ∧ lessB (c, d) (a, b) = true ∧ eqB (a, b) (c, d) = false) ∨ (lessB (a, b) (c, d) = false ∧ lessB (c, d) (a, b) = false ∧ eqB (a, b) (c, d) = true) := by
    unfold lessB eqB
    rcases Int.lt_trichotomy a c with h | h | h
    · left
      have h1 : ¬ a = c := by omega
      have h2 : ¬ c = a := by omega
      have h3 : ¬ c < a := by omega
      simp [h, h1, h2, h3]
    · subst h
      rcases Int.lt_trichotomy b d with k | k | k
      · left
        have h1 : ¬ b = d := by omega
        have h3 : ¬ d < b := by omega
        simp [k, h1, h3]
      · subst k; right; right; simp
      · right; left
        have h1 : ¬ b = d := by omega
        have h3 : ¬ b < d := by omega
        simp [k, h1, h3]
    · right; left
      have h1 : ¬ a = c := by omega
      have h2 : ¬ c = a := by omega
      have h3 : ¬ a < c := by omega
      simp [h, h1, h2, h3]
  unfold satB cmpB ordB
  rcases key with ⟨h1, h2, h3⟩ | ⟨h1, h2, h3⟩ | ⟨h1, h2, h3⟩ <;> simp [h1, h2, h3]

set_option maxHeartbeats 4000000 in
theorem sat40 (a : Option Addr) (n c : Nat) (qs : Nat → Att) (t : Trm) (w : World) (h : IsAtts w a n qs) (ht : InI64 t.hi) (hq : ∀ k, k < n → InI64 (qs k).hi) :
    Calls Try.prog 40 #[.agg #[.int .u8 t.op, .string t.attr, .int .i64 t.hi, .int .u64 t.lo], .slice a n c] w fun e w' => e = .returned (.bool (leaf (fun s => lastA qs s n) t)) ∧ Below w.heap.size w w' := by
  have hb := below_box w (.cells #[.int .u8 t.op, .string t.attr, .int .i64 t.hi, .int .u64 t.lo] 35)
  have HL := look44 a n c qs t.attr _ (h.below hb)
  have HI : Hid (∀ s p, lastA qs s n = some p → InI64 p.1) := by
    intro s p
    clear HL h
    induction n with
    | zero => intro e; cases e
    | succ n ih =>
      intro e
      unfold lastA at e
      by_cases es : s = (qs n).nm
      · rw [if_pos es] at e; cases e; exact hq n (by omega)
      · rw [if_neg es] at e; exact ih (fun k hk => hq k (by omega)) e
  obtain ⟨o, at1, hi, lo⟩ := t
  simp only at ht HL hb ⊢
  cases hg : lastA qs at1 n with
  | none =>
    have E : Hid (leaf (fun s => lastA qs s n) ⟨o, at1, hi, lo⟩ = false) := by show leaf _ _ = _; unfold leaf; simp only [hg]
    rw [hg] at HL
    simp only [lkV] at HL
    generalize leaf (fun s => lastA qs s n) ⟨o, at1, hi, lo⟩ = r at E ⊢
    clear hg HI
    go_enter Try.func40, Try.ntmps40
    go_wp2_with (go_at_call 44; refine HL.mono ?_; rintro e w1 ⟨rfl, hb1⟩)
    go_ret
    exact ⟨by rw [E.out]; rfl, hb.trans (hb1.mono hb.size)⟩
  | some p =>
    obtain ⟨ph, pl⟩ := p
    have hp : InI64 ph := HI.out at1 (ph, pl) hg
    have E : Hid (leaf (fun s => lastA qs s n) ⟨o, at1, hi, lo⟩ = satB o (ordB (ph, pl) (hi, lo))) := by show leaf _ _ = _; rw [satB_ord]; unfold leaf; simp only [hg]
    rw [hg] at HL
    simp only [lkV] at HL
    have HO := fun w => ord45 ph pl hi lo hp ht w
    generalize ordB (ph, pl) (hi, lo) = z at E HO
    generalize leaf (fun s => lastA qs s n) ⟨o, at1, hi, lo⟩ = r at E ⊢
    have B0 := Bx.new w 35 #[.int .u8 o, .string at1, .int .i64 hi, .int .u64 lo]
    clear hg HI
    go_enter Try.func40, Try.ntmps40
    go_wp2_with fail
    refine HL.mono ?_
    rintro e w1 ⟨rfl, hb1⟩
    have B1 := B0.below hb1 B0.lt
    have d0 : w1.cell? ⟨w.heap.size, 0, none⟩ = some (.int .u8 o) := cell_of_row _ _ 0 _ _ _ B1
    have d2 : w1.cell? ⟨w.heap.size, 2, none⟩ = some (.int .i64 hi) := cell_of_row _ _ 2 _ _ _ B1
    have d3 : w1.cell? ⟨w.heap.size, 3, none⟩ = some (.int .u64 lo) := cell_of_row _ _ 3 _ _ _ B1
    have hbb := hb.trans (hb1.mono hb.size)
    clear HL hb1 B0 B1 hb
    go_wp2_with fail
    refine (HO _).mono ?_
    rintro e w2 ⟨rfl, rfl⟩
    clear HO
    by_cases o1 : o = 1
    · subst o1
      have E' : Hid (r = decide (z < 0)) := E.out.trans (by simp [satB])
      clear E
      go_wp2
      all_goals (go_ret; exact ⟨by rw [E'.out]; first | rfl | simp [*], hbb⟩)
    by_cases o2 : o = 2
    · subst o2
      have E' : Hid (r = decide (z ≤ 0)) := E.out.trans (by simp [satB])
      clear E
      go_wp2
      all_goals (go_ret; exact ⟨by rw [E'.out]; first | rfl | simp [*], hbb⟩)
    by_cases o3 : o = 3
    · subst o3
      have E' : Hid (r = decide (0 < z)) := E.out.trans (by simp [satB])
      clear E
      go_wp2
      all_goals (go_ret; exact ⟨by rw [E'.out]; first | rfl | simp [*], hbb⟩)
    by_cases o4 : o = 4
    · subst o4
      have E' : Hid (r = decide (0 ≤ z)) := E.out.trans (by simp [satB])
      clear E
      go_wp2
      all_goals (go_ret; exact ⟨by rw [E'.out]; first | rfl | simp [*], hbb⟩)
    by_cases o5 : o = 5
    · subst o5
      have E' : Hid (r = (z == 0)) := E.out.trans (by simp [satB])
      clear E
      go_wp2
      all_goals (go_ret; exact ⟨by rw [E'.out]; first | rfl | simp [*], hbb⟩)
    have E' : Hid (r = !(z == 0)) := E.out.trans (by simp [satB, o1, o2, o3, o4, o5])
    have b1 : (o == 1) = false := by simpa using o1
    have b2 : (o == 2) = false := by simpa using o2
    have b3 : (o == 3) = false := by simpa using o3
    have b4 : (o == 4) = false := by simpa using o4
    have b5 : (o == 5) = false := by simpa using o5
    clear E o1 o2 o3 o4 o5
    go_wp2
    all_goals (go_ret; exact ⟨by rw [E'.out]; first | rfl | simp [*], hbb⟩)

end Go.Proofs.Qxb6601324a
