/-
  order: two numbers of two words compared by flipping the sign bit of the high word.
-/
import Derived.Test.Qxb6601324aCCmp
namespace Go.Proofs.Qxb6601324a
open Go.RowKit
set_option linter.unusedSimpArgs false
set_option linter.unusedVariables false

/-- a as a uint64. -/
def u64 (a : Int) : Int := a % 18446744073709551616
/-- a, its sign bit flipped, as a uint64. -/
def flip (a : Int) : Int := a + 9223372036854775808
def InI64 (a : Int) : Prop := -9223372036854775808 ≤ a ∧ a < 9223372036854775808
theorem flip_lt (a b : Int) : flip a < flip b ↔ a < b := by unfold flip; omega

theorem xor_top (b : Nat) (h : b < 2 ^ 63) : b ^^^ 2 ^ 63 = 2 ^ 63 + b := by
  apply Nat.eq_of_testBit_eq
  intro i
  rw [Nat.testBit_xor, Nat.testBit_two_pow]
  rcases Nat.lt_trichotomy i 63 with hi | hi | hi
  · rw [Nat.testBit_two_pow_add_gt hi, decide_eq_false (by omega), Bool.xor_false]
  · subst hi
    rw [Nat.testBit_two_pow_add_eq, Nat.testBit_lt_two_pow h]
    decide
  · rw [decide_eq_false (by omega), Bool.xor_false]
    have h1 : b.testBit i = false := Nat.testBit_lt_two_pow (Nat.lt_of_lt_of_le h (Nat.pow_le_pow_right (by decide) (by omega)))
    have h2 : (2 ^ 63 + b).testBit i = false := Nat.testBit_lt_two_pow (Nat.lt_of_lt_of_le (by omega : 2 ^ 63 + b < 2 ^ 64) (Nat.pow_le_pow_right (by decide) (by omega)))
    rw [h1, h2]
theorem xor_top' (b : Nat) (h : 2 ^ 63 ≤ b) (h' : b < 2 ^ 64) : b ^^^ 2 ^ 63 = b - 2 ^ 63 := by
  have e := xor_top (b - 2 ^ 63) (by omega)
  rw [show 2 ^ 63 + (b - 2 ^ 63) = b by omega] at e
  rw [← e, Nat.xor_assoc, Nat.xor_self, Nat.xor_zero]
  rw [e]
theorem run_flip (a : Int) (h : InI64 a) (w : World) : (Op.intBits .xor .u64 (u64 a) 9223372036854775808).run Try.prog w = .ok (.int .u64 (flip a)) w := by
  obtain ⟨h1, h2⟩ := h
  have hx : (BitVec.ofInt 64 (u64 a) ^^^ BitVec.ofInt 64 9223372036854775808).toNat = (flip a).toNat := by
    rw [BitVec.toNat_xor, BitVec.toNat_ofInt, BitVec.toNat_ofInt]
    have e1 : (9223372036854775808 % ((2 ^ 64 : Nat) : Int)).toNat = 2 ^ 63 := by decide
    rw [e1]
    unfold u64 flip
    by_cases ha : 0 ≤ a
    · rw [show (a % 18446744073709551616 % ((2 ^ 64 : Nat) : Int)).toNat = a.toNat by omega, xor_top _ (by omega)]
      omega
    · rw [show (a % 18446744073709551616 % ((2 ^ 64 : Nat) : Int)).toNat = (a + 18446744073709551616).toNat by omega, xor_top' _ (by omega) (by omega)]
      omega
  have hw : IntKind.u64.wrap ((BitVec.ofInt 64 (u64 a) ^^^ BitVec.ofInt 64 9223372036854775808).toNat : Int) = flip a := by
    rw [hx]
    have e : ((flip a).toNat : Int) = flip a := by unfold flip; omega
    rw [e]
    show (flip a) % _ = _
    unfold flip
    show (a + 9223372036854775808) % 18446744073709551616 = _
    omega
  show Result.ok (Value.int .u64 (IntKind.u64.wrap ((BitVec.ofInt 64 (u64 a) ^^^ BitVec.ofInt 64 9223372036854775808).toNat : Int))) w = _
  rw [hw]
section
variable {ops : Array Oper} {rest : List Oper} {o : Oper} {a : Act} {w : World} {Q : Exit → Act → World → Prop}
theorem wpList_toU64 (hg : o.guard = none) (x : Operand) (ho : o.op = .convert 2 33 x) (n : Int) (hx : a.eval x = .int .i64 n)
    (h : wpList Try.prog ops Q rest (a.put o.dst (.int .u64 (u64 n))) w) : wpList Try.prog ops Q (o :: rest) a w := by
  refine wpList_plain hg fun K hK => ?_
  have hrun : (execOp a.eval o).run Try.prog w = .ok (.value (.int .u64 (u64 n))) w := by
    unfold execOp
    rw [ho]
    simp only [hx]
    have hc : (convert 2 33 (.int .i64 n)).run Try.prog w = .ok (.int .u64 (u64 n)) w := by
      unfold convert
      simp only [Sem.run_bind, run_underlying Try.underlying2, run_underlying Try.underlying33, Result.andThen_ok]
      rfl
    simp only [Sem.run_bind, hc, Result.andThen_ok]
    rfl
  unfold Oper.wp
  rw [hrun, Oper.upon_value]
  exact hK _ _ h
theorem wpList_flip (hg : o.guard = none) (x : Operand) (ho : o.op = .binOp .xor 33 x (.const (.int .u64 9223372036854775808)) 33) (n : Int) (hn : InI64 n) (hx : a.eval x = .int .u64 (u64 n))
    (h : wpList Try.prog ops Q rest (a.put o.dst (.int .u64 (flip n))) w) : wpList Try.prog ops Q (o :: rest) a w := by
  refine wpList_plain hg fun K hK => ?_
  have hrun : (execOp a.eval o).run Try.prog w = .ok (.value (.int .u64 (flip n))) w := by
    unfold execOp
    rw [ho]
    have hy : a.eval (.const (.int .u64 9223372036854775808)) = .int .u64 9223372036854775808 := rfl
    simp only [hx, hy]
    have hb : (binOp .xor 33 (.int .u64 (u64 n)) (.int .u64 9223372036854775808)).run Try.prog w = .ok (.int .u64 (flip n)) w := run_flip n hn w
    have he : (eqGuard .xor 33 x (.const (.int .u64 9223372036854775808)) (.int .u64 (u64 n)) (.int .u64 9223372036854775808)).run Try.prog w = .ok () w := rfl
    simp only [Sem.run_bind, he, hb, Result.andThen_ok]
    rfl
  unfold Oper.wp
  rw [hrun, Oper.upon_value]
  exact hK _ _ h
end

def ordB (p q : Int × Int) : Int := if lessB p q = true then -1 else if lessB q p = true then 1 else 0
set_option maxHeartbeats 1000000 in
theorem ord45 (a b c d : Int) (ha : InI64 a) (hc : InI64 c) (w : World) : Calls Try.prog 45 #[.int .i64 a, .int .u64 b, .int .i64 c, .int .u64 d] w fun e w' => e = .returned (.int .i64 (ordB (a, b) (c, d))) ∧ w' = w := by
  have HA : Hid (InI64 a) := ha
  have HC : Hid (InI64 c) := hc
  rcases Int.lt_trichotomy a c with h | h | h
  · have E : Hid (ordB (a, b) (c, d) = -1) := by
      have : ¬ a = c := by omega
      show ordB _ _ = _; simp [ordB, lessB, this, h]
    have f1 : flip a < flip c := (flip_lt a c).2 h
    clear h
    generalize ordB (a, b) (c, d) = r at E ⊢
    go_enter Try.func45, Try.ntmps45
    go_wp2_with (first
      | (refine wpList_toU64 rfl (.tmp 11) rfl a rfl ?_)
      | (refine wpList_flip rfl (.tmp 12) rfl a ha rfl ?_)
      | (refine wpList_toU64 rfl (.tmp 14) rfl c rfl ?_)
      | (refine wpList_flip rfl (.tmp 15) rfl c hc rfl ?_))
    go_ret
    exact ⟨by rw [E.out]; rfl, rfl⟩
  · subst h
    have f1 : ¬ flip a < flip a := by omega
    rcases Int.lt_trichotomy b d with k | k | k
    · have E : Hid (ordB (a, b) (a, d) = -1) := by show ordB _ _ = _; simp [ordB, lessB, k]
      generalize ordB (a, b) (a, d) = r at E ⊢
      go_enter Try.func45, Try.ntmps45
      go_wp2_with (first
      | (refine wpList_toU64 rfl (.tmp 11) rfl a rfl ?_)
      | (refine wpList_flip rfl (.tmp 12) rfl a ha rfl ?_)
      | (refine wpList_toU64 rfl (.tmp 14) rfl a rfl ?_)
      | (refine wpList_flip rfl (.tmp 15) rfl a hc rfl ?_))
      go_ret
      exact ⟨by rw [E.out]; rfl, rfl⟩
    · subst k
      have E : Hid (ordB (a, b) (a, b) = 0) := by show ordB _ _ = _; simp [ordB, lessB]
      generalize ordB (a, b) (a, b) = r at E ⊢
      go_enter Try.func45, Try.ntmps45
      go_wp2_with (first
      | (refine wpList_toU64 rfl (.tmp 11) rfl a rfl ?_)
      | (refine wpList_flip rfl (.tmp 12) rfl a ha rfl ?_)
      | (refine wpList_toU64 rfl (.tmp 14) rfl a rfl ?_)
      | (refine wpList_flip rfl (.tmp 15) rfl a hc rfl ?_))
      go_ret
      exact ⟨by rw [E.out]; rfl, rfl⟩
    · have E : Hid (ordB (a, b) (a, d) = 1) := by
        have : ¬ b < d := by omega
        show ordB _ _ = _; simp [ordB, lessB, k, this]
      have k' : ¬ b < d := by omega
      generalize ordB (a, b) (a, d) = r at E ⊢
      go_enter Try.func45, Try.ntmps45
      go_wp2_with (first
      | (refine wpList_toU64 rfl (.tmp 11) rfl a rfl ?_)
      | (refine wpList_flip rfl (.tmp 12) rfl a ha rfl ?_)
      | (refine wpList_toU64 rfl (.tmp 14) rfl a rfl ?_)
      | (refine wpList_flip rfl (.tmp 15) rfl a hc rfl ?_))
      go_ret
      exact ⟨by rw [E.out]; rfl, rfl⟩
  · have E : Hid (ordB (a, b) (c, d) = 1) := by
      have h1 : ¬ a = c := by omega
      have h2 : ¬ c = a := by omega
      have h3 : ¬ a < c := by omega
      show ordB _ _ = _; simp [ordB, lessB, h1, h2, h3, h]
    have f1 : flip c < flip a := (flip_lt c a).2 h
    have f2 : ¬ flip a < flip c := by omega
    clear h
    generalize ordB (a, b) (c, d) = r at E ⊢
    go_enter Try.func45, Try.ntmps45
    go_wp2_with (first
      | (refine wpList_toU64 rfl (.tmp 11) rfl a rfl ?_)
      | (refine wpList_flip rfl (.tmp 12) rfl a ha rfl ?_)
      | (refine wpList_toU64 rfl (.tmp 14) rfl c rfl ?_)
      | (refine wpList_flip rfl (.tmp 15) rfl c hc rfl ?_))
    go_ret
    exact ⟨by rw [E.out]; rfl, rfl⟩
end Go.Proofs.Qxb6601324a
