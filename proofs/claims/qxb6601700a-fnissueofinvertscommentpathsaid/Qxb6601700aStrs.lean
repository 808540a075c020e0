/-
  strings.CutPrefix, CutSuffix and what they call; issueOf: what they answer, said of byte arrays.
-/
import Derived.Test.Qxb6601700aRows
import Derived.WalkKit
import Derived.WalkSpells
import Derived.WalkLawsBesides
namespace Go.Proofs.Qxb6601700a
open Go.RowKit
set_option linter.unusedSimpArgs false
set_option linter.unusedVariables false

def hasPre (s p : ByteArray) : Bool := decide (p.size ≤ s.size) && ((s.extract 0 p.size).toList == p.toList)
def hasSuf (s p : ByteArray) : Bool := decide (p.size ≤ s.size) && ((s.extract (s.size - p.size) s.size).toList == p.toList)

theorem hp31 (s p : ByteArray) (w : World) (hs : s.size ≤ maxLen) (hp : p.size ≤ maxLen) :
    Calls Try.prog 31 #[.string s, .string p] w fun e w' => e = .returned (.bool (hasPre s p)) ∧ w' = w := by
  unfold maxLen at hs hp
  have hid : Hid (hasPre s p = (decide (p.size ≤ s.size) && ((s.extract 0 p.size).toList == p.toList))) := rfl
  by_cases h : p.size ≤ s.size
  · go_enter Try.func31, Try.ntmps31
    go_wp2
    all_goals (go_ret; exact ⟨by rw [hid.out]; simp [*], rfl⟩)
  · go_enter Try.func31, Try.ntmps31
    go_wp2
    go_ret
    exact ⟨by rw [hid.out, decide_eq_false (by omega)]; rfl, rfl⟩
theorem hs32 (s p : ByteArray) (w : World) (hs : s.size ≤ maxLen) (hp : p.size ≤ maxLen) :
    Calls Try.prog 32 #[.string s, .string p] w fun e w' => e = .returned (.bool (hasSuf s p)) ∧ w' = w := by
  unfold maxLen at hs hp
  have hid : Hid (hasSuf s p = (decide (p.size ≤ s.size) && ((s.extract (s.size - p.size) s.size).toList == p.toList))) := rfl
  by_cases h : p.size ≤ s.size
  · go_enter Try.func32, Try.ntmps32
    go_wp2
    all_goals (go_ret; exact ⟨by rw [hid.out]; simp [*], rfl⟩)
  · go_enter Try.func32, Try.ntmps32
    go_wp2
    go_ret
    exact ⟨by rw [hid.out, decide_eq_false (by omega)]; rfl, rfl⟩

theorem cp29 (s p : ByteArray) (w : World) (hs : s.size ≤ maxLen) (hp : p.size ≤ maxLen) :
    Calls Try.prog 29 #[.string s, .string p] w fun e w' => e = .returned (.tuple #[.string (if hasPre s p = true then s.extract p.size s.size else s), .bool (hasPre s p)]) ∧ w' = w := by
  have HC := hp31 s p w hs hp
  unfold maxLen at hs hp
  by_cases h : hasPre s p = true
  · rw [if_pos h, h]
    rw [h] at HC
    have hle : p.size ≤ s.size := by unfold hasPre at h; simp at h; exact h.1
    clear h
    go_enter Try.func29, Try.ntmps29
    go_wp2_with (go_at_call 31; refine HC.mono ?_; rintro e w' ⟨rfl, rfl⟩)
    go_ret2
    exact ⟨rfl, rfl⟩
  · have h' : hasPre s p = false := by simpa using h
    rw [if_neg h, h']
    rw [h'] at HC
    clear h h'
    go_enter Try.func29, Try.ntmps29
    go_wp2_with (go_at_call 31; refine HC.mono ?_; rintro e w' ⟨rfl, rfl⟩)
    go_ret2
    exact ⟨rfl, rfl⟩
theorem cs30 (s p : ByteArray) (w : World) (hs : s.size ≤ maxLen) (hp : p.size ≤ maxLen) :
    Calls Try.prog 30 #[.string s, .string p] w fun e w' => e = .returned (.tuple #[.string (if hasSuf s p = true then s.extract 0 (s.size - p.size) else s), .bool (hasSuf s p)]) ∧ w' = w := by
  have HC := hs32 s p w hs hp
  unfold maxLen at hs hp
  by_cases h : hasSuf s p = true
  · rw [if_pos h, h]
    rw [h] at HC
    have hle : p.size ≤ s.size := by unfold hasSuf at h; simp at h; exact h.1
    clear h
    go_enter Try.func30, Try.ntmps30
    go_wp2_with (go_at_call 32; refine HC.mono ?_; rintro e w' ⟨rfl, rfl⟩)
    go_ret2
    exact ⟨rfl, rfl⟩
  · have h' : hasSuf s p = false := by simpa using h
    rw [if_neg h, h']
    rw [h'] at HC
    clear h h'
    go_enter Try.func30, Try.ntmps30
    go_wp2_with (go_at_call 32; refine HC.mono ?_; rintro e w' ⟨rfl, rfl⟩)
    go_ret2
    exact ⟨rfl, rfl⟩
theorem cp27 (s p : ByteArray) (w : World) (hs : s.size ≤ maxLen) (hp : p.size ≤ maxLen) :
    Calls Try.prog 27 #[.string s, .string p] w fun e w' => e = .returned (.tuple #[.string (if hasPre s p = true then s.extract p.size s.size else s), .bool (hasPre s p)]) ∧ w' = w := by
  have HC := cp29 s p w hs hp
  generalize (if hasPre s p = true then s.extract p.size s.size else s) = r at HC ⊢
  generalize hasPre s p = b at HC ⊢
  go_enter Try.func27, Try.ntmps27
  go_wp2_with (go_at_call 29; refine HC.mono ?_; rintro e w' ⟨rfl, rfl⟩)
  go_ret2
  exact ⟨rfl, rfl⟩
theorem cs28 (s p : ByteArray) (w : World) (hs : s.size ≤ maxLen) (hp : p.size ≤ maxLen) :
    Calls Try.prog 28 #[.string s, .string p] w fun e w' => e = .returned (.tuple #[.string (if hasSuf s p = true then s.extract 0 (s.size - p.size) else s), .bool (hasSuf s p)]) ∧ w' = w := by
  have HC := cs30 s p w hs hp
  generalize (if hasSuf s p = true then s.extract 0 (s.size - p.size) else s) = r at HC ⊢
  generalize hasSuf s p = b at HC ⊢
  go_enter Try.func28, Try.ntmps28
  go_wp2_with (go_at_call 30; refine HC.mono ?_; rintro e w' ⟨rfl, rfl⟩)
  go_ret2
  exact ⟨rfl, rfl⟩

def PRE : ByteArray := ⟨#[47, 114, 101, 115, 116, 47, 97, 112, 105, 47, 51, 47, 105, 115, 115, 117, 101, 47]⟩
def SUF : ByteArray := ⟨#[47, 99, 111, 109, 109, 101, 110, 116]⟩
/-- issueOf, plainly. -/
def issue (s : ByteArray) : ByteArray :=
  if hasPre s PRE = true then
    if hasSuf (s.extract 18 s.size) SUF = true then (s.extract 18 s.size).extract 0 ((s.extract 18 s.size).size - 8) else s
  else s
theorem is26 (s : ByteArray) (w : World) (hs : s.size ≤ maxLen) :
    Calls Try.prog 26 #[.string s] w fun e w' => e = .returned (.string (issue s)) ∧ w' = w := by
  have HP := cp27 s PRE w hs (by unfold maxLen; decide)
  have hz : (s.extract 18 s.size).size ≤ maxLen := by rw [ByteArray.size_extract]; omega
  have HS := cs28 (s.extract 18 s.size) SUF w hz (by unfold maxLen; decide)
  have e0 : PRE = ⟨#[47, 114, 101, 115, 116, 47, 97, 112, 105, 47, 51, 47, 105, 115, 115, 117, 101, 47]⟩ := rfl
  have e1 : SUF = ⟨#[47, 99, 111, 109, 109, 101, 110, 116]⟩ := rfl
  by_cases h : hasPre s PRE = true
  · rw [if_pos h, h, show PRE.size = 18 from rfl, e0] at HP
    by_cases k : hasSuf (s.extract 18 s.size) SUF = true
    · have E : issue s = (s.extract 18 s.size).extract 0 ((s.extract 18 s.size).size - 8) := by unfold issue; rw [if_pos h, if_pos k]
      rw [if_pos k, k, show SUF.size = 8 from rfl, e1] at HS
      rw [E]
      generalize (s.extract 18 s.size).extract 0 ((s.extract 18 s.size).size - 8) = r at HS ⊢
      clear E e0 e1 h k
      go_enter Try.func26, Try.ntmps26
      go_wp2_with (first
        | (go_at_call 27; refine HP.mono ?_; rintro e w' ⟨rfl, rfl⟩)
        | (go_at_call 28; refine HS.mono ?_; rintro e w' ⟨rfl, rfl⟩))
      go_ret
      exact ⟨rfl, rfl⟩
    · have k' : hasSuf (s.extract 18 s.size) SUF = false := by simpa using k
      have E : issue s = s := by unfold issue; rw [if_pos h, if_neg k]
      rw [if_neg k, k', e1] at HS
      rw [E]
      clear E e0 e1 h k k'
      go_enter Try.func26, Try.ntmps26
      go_wp2_with (first
        | (go_at_call 27; refine HP.mono ?_; rintro e w' ⟨rfl, rfl⟩)
        | (go_at_call 28; refine HS.mono ?_; rintro e w' ⟨rfl, rfl⟩))
      go_ret
      exact ⟨rfl, rfl⟩
  · have h' : hasPre s PRE = false := by simpa using h
    have E : issue s = s := by unfold issue; rw [if_neg h]
    rw [if_neg h, h', e0] at HP
    rw [E]
    clear E e0 e1 h h'
    go_enter Try.func26, Try.ntmps26
    go_wp2_with (go_at_call 27; refine HP.mono ?_; rintro e w' ⟨rfl, rfl⟩)
    go_ret
    exact ⟨rfl, rfl⟩
theorem is22 (s : ByteArray) (w : World) (hs : s.size ≤ maxLen) :
    Calls Try.prog 22 #[.string s] w fun e w' => e = .returned (.string (issue s)) ∧ w' = w := by
  have HC := is26 s w hs
  generalize issue s = r at HC ⊢
  go_enter Try.func22, Try.ntmps22
  go_wp2_with (go_at_call 26; refine HC.mono ?_; rintro e w' ⟨rfl, rfl⟩)
  go_ret
  exact ⟨rfl, rfl⟩
end Go.Proofs.Qxb6601700a
