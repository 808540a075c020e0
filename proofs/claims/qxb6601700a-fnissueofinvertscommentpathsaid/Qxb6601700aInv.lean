/-
  FnIssueOfInvertsCommentPath: the walk of the law, and the plain law.
-/
import Derived.Test.Qxb6601700aStrs
namespace Go.Proofs.Qxb6601700a
open Go.RowKit
set_option linter.unusedSimpArgs false
set_option linter.unusedVariables false

theorem bytes_ext {a b : ByteArray} (h : a.data.toList = b.data.toList) : a = b := by
  cases a; cases b
  simp only [ByteArray.mk.injEq]
  exact Array.ext' h
theorem ext_list (s : ByteArray) (a b : Nat) : (s.extract a b).data.toList = (s.data.toList.drop a).take (b - a) := by
  rw [ByteArray.data_extract, Array.toList_extract, List.extract_eq_take_drop]
theorem size_list (s : ByteArray) : s.size = s.data.toList.length := Array.length_toList.symm
theorem hasPre_of {s p : ByteArray} {r : List UInt8} (h : s.data.toList = p.data.toList ++ r) : hasPre s p = true := by
  have hs := size_list s
  have hp := size_list p
  rw [h, List.length_append] at hs
  unfold hasPre
  simp only [Bool.and_eq_true, decide_eq_true_eq, beq_iff_eq]
  refine ⟨by omega, ?_⟩
  congr 1
  apply bytes_ext
  rw [ext_list, h, hp, List.drop_zero, Nat.sub_zero, List.take_left]
theorem hasSuf_of {s p : ByteArray} {r : List UInt8} (h : s.data.toList = r ++ p.data.toList) : hasSuf s p = true := by
  have hs := size_list s
  have hp := size_list p
  rw [h, List.length_append] at hs
  unfold hasSuf
  simp only [Bool.and_eq_true, decide_eq_true_eq, beq_iff_eq]
  refine ⟨by omega, ?_⟩
  congr 1
  apply bytes_ext
  rw [ext_list, h, show s.size - p.size = r.length by omega, List.drop_left, List.take_of_length_le (by omega)]
theorem issue_inv (k : ByteArray) : issue (PRE ++ k ++ SUF) = k := by
  have hl : (PRE ++ k ++ SUF).data.toList = PRE.data.toList ++ (k.data.toList ++ SUF.data.toList) := by
    rw [ByteArray.data_append, ByteArray.data_append, Array.toList_append, Array.toList_append, List.append_assoc]
  have hz : (PRE ++ k ++ SUF).size = 18 + (k.data.toList.length + 8) := by
    rw [size_list, hl, List.length_append, List.length_append]; rfl
  have hp : hasPre (PRE ++ k ++ SUF) PRE = true := hasPre_of hl
  have hm : ((PRE ++ k ++ SUF).extract 18 (PRE ++ k ++ SUF).size).data.toList = k.data.toList ++ SUF.data.toList := by
    rw [ext_list, hl, hz, show (18 : Nat) = PRE.data.toList.length from rfl, List.drop_left, List.take_of_length_le]
    rw [List.length_append]
    show _ + 8 ≤ _
    omega
  have hs : hasSuf ((PRE ++ k ++ SUF).extract 18 (PRE ++ k ++ SUF).size) SUF = true := hasSuf_of hm
  unfold issue
  rw [if_pos hp, if_pos hs]
  apply bytes_ext
  rw [ext_list, hm, size_list, hm, List.length_append, List.drop_zero, show SUF.data.toList.length = 8 from rfl, Nat.add_sub_cancel, Nat.sub_zero, List.take_left]
set_option maxHeartbeats 400000 in
theorem walk8 (a0 : ByteArray) (w0 : a0.size ≤ maxLen) (w : World) :
    Calls Try.prog 8 #[.string a0] w fun e w' => e = .returned (.bool true) ∧ Grown w w' := by
  unfold maxLen at w0
  by_cases h : 1048576 < a0.size
  · go_enter Try.func8, Try.ntmps8
    go_wp2
    go_ret
    exact ⟨rfl, Grown.refl _⟩
  have HC := is22 (PRE ++ a0 ++ SUF) w (by unfold maxLen; simp [ByteArray.size_append]; have : PRE.size = 18 := rfl; have : SUF.size = 8 := rfl; omega)
  rw [issue_inv, show PRE = ⟨#[47, 114, 101, 115, 116, 47, 97, 112, 105, 47, 51, 47, 105, 115, 115, 117, 101, 47]⟩ from rfl, show SUF = ⟨#[47, 99, 111, 109, 109, 101, 110, 116]⟩ from rfl] at HC
  go_enter Try.func8, Try.ntmps8
  go_wp2_with (first | (go_at_call 22; go_loud (refine HC.mono ?_; rintro e w' ⟨rfl, rfl⟩)) | go_in)
  go_ret
  exact ⟨rfl, Grown.refl _⟩
end Go.Proofs.Qxb6601700a
