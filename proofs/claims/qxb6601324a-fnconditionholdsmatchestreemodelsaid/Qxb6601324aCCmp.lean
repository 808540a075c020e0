/-
  (Number).less, (op).compare: what they answer.
-/
import Derived.Test.Qxb6601324aCAttrs
namespace Go.Proofs.Qxb6601324a
open Go.RowKit
set_option linter.unusedSimpArgs false
set_option linter.unusedVariables false

def lessB (p q : Int × Int) : Bool := if p.1 = q.1 then decide (p.2 < q.2) else decide (p.1 < q.1)
def eqB (p q : Int × Int) : Bool := p.1 == q.1 && p.2 == q.2
def cmpB (op : Int) (p q : Int × Int) : Bool :=
  if op = 1 then lessB p q else if op = 2 then !lessB q p else if op = 3 then lessB q p else if op = 4 then !lessB p q else if op = 5 then eqB p q else !eqB p q
theorem eq59 (a b c d : Int) (w : World) : (Op.equalIn 10000 59 (.agg #[.int .i64 a, .int .u64 b]) (.agg #[.int .i64 c, .int .u64 d])).run Try.prog w = .ok (a == c && b == d) w := by
  rw [show 10000 = 9999 + 1 from rfl, run_equalIn_agg w 9999 59 _ _ (by kernel_rfl) (by kernel_rfl)]
  simp only [Program.fieldsOf, Try.underlying59]
  go_simp
  by_cases h0 : a = c
  · by_cases h1 : b = d <;> simp [h0, h1]
  · simp [h0]
theorem eql59 (a b c d : Int) (w : World) : (binOp .eql 59 (.agg #[.int .i64 a, .int .u64 b]) (.agg #[.int .i64 c, .int .u64 d])).run Try.prog w = .ok (.bool (a == c && b == d)) w := by
  rw [run_eql_struct, eq59]; rfl
theorem neq59 (a b c d : Int) (w : World) : (binOp .neq 59 (.agg #[.int .i64 a, .int .u64 b]) (.agg #[.int .i64 c, .int .u64 d])).run Try.prog w = .ok (.bool (!(a == c && b == d))) w := by
  rw [run_neq_struct, eq59]; rfl
theorem less43 (a b c d : Int) (w : World) : Calls Try.prog 43 #[.agg #[.int .i64 a, .int .u64 b], .agg #[.int .i64 c, .int .u64 d]] w fun e w' => e = .returned (.bool (lessB (a, b) (c, d))) ∧ Below w.heap.size w w' := by
  by_cases h : a = c
  · subst h
    have E : Hid (lessB (a, b) (a, d) = decide (b < d)) := by show lessB _ _ = _; simp [lessB]
    generalize lessB (a, b) (a, d) = r at E ⊢
    go_enter Try.func43, Try.ntmps43
    go_wp2
    go_ret
    exact ⟨by rw [E.out]; rfl, below_box2 _ _ _⟩
  · have E : Hid (lessB (a, b) (c, d) = decide (a < c)) := by show lessB _ _ = _; simp [lessB, h]
    have h' : (a == c) = false := by simpa using h
    clear h
    generalize lessB (a, b) (c, d) = r at E ⊢
    go_enter Try.func43, Try.ntmps43
    go_wp2
    go_ret
    exact ⟨by rw [E.out]; rfl, below_box2 _ _ _⟩

set_option maxHeartbeats 2000000 in
theorem cmp39 (o a b c d : Int) (w : World) : Calls Try.prog 39 #[.int .u8 o, .agg #[.int .i64 a, .int .u64 b], .agg #[.int .i64 c, .int .u64 d]] w fun e w' => e = .returned (.bool (cmpB o (a, b) (c, d))) ∧ Below w.heap.size w w' := by
  have hbx := below_box2 w (.cells #[.int .i64 a, .int .u64 b] 59) (.cells #[.int .i64 c, .int .u64 d] 59)
  have L1 := less43 a b c d ((w.alloc (.cells #[.int .i64 a, .int .u64 b] 59)).alloc (.cells #[.int .i64 c, .int .u64 d] 59))
  have L2 := less43 c d a b ((w.alloc (.cells #[.int .i64 a, .int .u64 b] 59)).alloc (.cells #[.int .i64 c, .int .u64 d] 59))
  have hq1 := fun w => eql59 a b c d w
  have hq2 := fun w => neq59 a b c d w
  by_cases o1 : o = 1
  · subst o1
    have E : Hid (cmpB 1 (a, b) (c, d) = (lessB (a, b) (c, d))) := by show cmpB _ _ _ = _; simp [cmpB]
    generalize cmpB 1 (a, b) (c, d) = r at E ⊢
    go_enter Try.func39, Try.ntmps39
    go_wp2_with (go_at_call 43; refine L1.mono ?_; rintro e w' ⟨rfl, hb⟩)
    go_ret
    exact ⟨by rw [E.out]; rfl, hbx.trans (hb.mono hbx.size)⟩
  by_cases o2 : o = 2
  · subst o2
    have E : Hid (cmpB 2 (a, b) (c, d) = (!lessB (c, d) (a, b))) := by show cmpB _ _ _ = _; simp [cmpB]
    generalize cmpB 2 (a, b) (c, d) = r at E ⊢
    go_enter Try.func39, Try.ntmps39
    go_wp2_with (go_at_call 43; refine L2.mono ?_; rintro e w' ⟨rfl, hb⟩)
    go_ret
    exact ⟨by rw [E.out]; rfl, hbx.trans (hb.mono hbx.size)⟩
  by_cases o3 : o = 3
  · subst o3
    have E : Hid (cmpB 3 (a, b) (c, d) = (lessB (c, d) (a, b))) := by show cmpB _ _ _ = _; simp [cmpB]
    generalize cmpB 3 (a, b) (c, d) = r at E ⊢
    go_enter Try.func39, Try.ntmps39
    go_wp2_with (go_at_call 43; refine L2.mono ?_; rintro e w' ⟨rfl, hb⟩)
    go_ret
    exact ⟨by rw [E.out]; rfl, hbx.trans (hb.mono hbx.size)⟩
  by_cases o4 : o = 4
  · subst o4
    have E : Hid (cmpB 4 (a, b) (c, d) = (!lessB (a, b) (c, d))) := by show cmpB _ _ _ = _; simp [cmpB]
    generalize cmpB 4 (a, b) (c, d) = r at E ⊢
    go_enter Try.func39, Try.ntmps39
    go_wp2_with (go_at_call 43; refine L1.mono ?_; rintro e w' ⟨rfl, hb⟩)
    go_ret
    exact ⟨by rw [E.out]; rfl, hbx.trans (hb.mono hbx.size)⟩
  by_cases o5 : o = 5
  · subst o5
    have E : Hid (cmpB 5 (a, b) (c, d) = (eqB (a, b) (c, d))) := by show cmpB _ _ _ = _; simp [cmpB]
    generalize cmpB 5 (a, b) (c, d) = r at E ⊢
    clear L1 L2
    go_enter Try.func39, Try.ntmps39
    go_wp2
    go_ret
    exact ⟨by rw [E.out]; rfl, hbx⟩
  have E : Hid (cmpB o (a, b) (c, d) = (!(a == c) || !(b == d))) := by show cmpB _ _ _ = _; simp [cmpB, eqB, o1, o2, o3, o4, o5, Bool.not_and]
  generalize cmpB o (a, b) (c, d) = r at E ⊢
  have b1 : (o == 1) = false := by simpa using o1
  have b2 : (o == 2) = false := by simpa using o2
  have b3 : (o == 3) = false := by simpa using o3
  have b4 : (o == 4) = false := by simpa using o4
  have b5 : (o == 5) = false := by simpa using o5
  clear o1 o2 o3 o4 o5 L1 L2
  go_enter Try.func39, Try.ntmps39
  go_wp2
  go_ret
  exact ⟨by rw [E.out]; rfl, hbx⟩
end Go.Proofs.Qxb6601324a
