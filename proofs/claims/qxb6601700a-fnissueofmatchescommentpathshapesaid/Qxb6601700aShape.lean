/-
  FnIssueOfMatchesCommentPathShape: zzB1HasAt, the walk of the law, and the plain law.
-/
import Derived.Test.Qxb6601700aInv
import Derived.Deep.QuietTactic
import Derived.BigQuiet
namespace Go.Proofs.Qxb6601700a
open Go.RowKit
set_option linter.unusedSimpArgs false
set_option linter.unusedVariables false

def At (s : ByteArray) (n : Nat) (p : ByteArray) : Prop := ∀ i, i < p.size → s.data.toList[n + i]? = p.data.toList[i]?

theorem byte_at (s : ByteArray) (i : Nat) (h : i < s.size) : s.data.toList[i]? = some s[i] := by
  rw [Array.getElem?_toList, Array.getElem?_eq_getElem h]
  rfl
theorem u8_of {a b : UInt8} (h : ((a.toNat : Int) != (b.toNat : Int)) = false) : a = b := by
  have h' : (a.toNat : Int) = (b.toNat : Int) := by simpa using h
  exact UInt8.toNat_inj.1 (by omega)
theorem u8_ne {a b : UInt8} (h : ((a.toNat : Int) != (b.toNat : Int)) = true) : a ≠ b := by
  rintro rfl
  simp at h
theorem all_succ {P : Nat → Prop} {k : Nat} (h : ∀ j, j < k → P j) (hk : P k) : ∀ j, j < k + 1 → P j := fun j hj => by
  by_cases e : j = k
  · rw [e]; exact hk
  · exact h j (by omega)
def Says (p : Prop) (w : World) (e : Ending) (w' : World) : Prop := (∃ b : Bool, e = .returned (.bool b) ∧ (b = true ↔ p)) ∧ ∃ q, w' = w.drewN q
theorem says_true {p : Prop} {w : World} (hp : p) (q : Nat) : Says p w (.returned (.bool true)) (w.drewN q) := ⟨⟨true, rfl, by simp [hp]⟩, q, rfl⟩
theorem says_false {p : Prop} {w : World} (hp : ¬ p) (q : Nat) : Says p w (.returned (.bool false)) (w.drewN q) := ⟨⟨false, rfl, by simp [hp]⟩, q, rfl⟩
theorem Says.yes {p : Prop} {w w' : World} {e : Ending} (hp : p) (h : Says p w e w') : e = .returned (.bool true) ∧ ∃ q, w.drewN q = w' := by
  obtain ⟨⟨b, rfl, hb⟩, q, rfl⟩ := h
  exact ⟨by rw [hb.2 hp], q, rfl⟩
theorem Says.no {p : Prop} {w w' : World} {e : Ending} (hp : ¬ p) (h : Says p w e w') : e = .returned (.bool false) ∧ ∃ q, w.drewN q = w' := by
  obtain ⟨⟨b, rfl, hb⟩, q, rfl⟩ := h
  cases b with
  | false => exact ⟨rfl, q, rfl⟩
  | true => exact absurd (hb.1 rfl) hp

set_option maxHeartbeats 400000 in
theorem hasAt21 (s p : ByteArray) (n : Nat) (w : World) (hs : s.size ≤ 1048576) (hn : n + p.size ≤ s.size) :
    Calls Try.prog 21 #[.string s, .int .i64 n, .string p] w (Says (At s n p) w) := by
  have g1 : ¬ (n : Int) < 0 := by omega
  have g2 : ¬ (s.size : Int) < (n : Int) := by omega
  have g3 : ¬ (s.size : Int) - (n : Int) < (p.size : Int) := by omega
  go_enter Try.func21, Try.ntmps21
  go_wp2
  go_loopw [7] (fun i wr => ∃ k : Nat, k ≤ p.size ∧ i = .int .i64 k ∧ (∀ j, j < k → s.data.toList[n + j]? = p.data.toList[j]?) ∧ ∃ q, wr = w.drewN q) (fun i _ => p.size - (intOf i).toNat)
  case atStart => exact ⟨0, Nat.zero_le _, rfl, fun j hj => by omega, 0, rfl⟩
  case round =>
    obtain ⟨k, hk, rfl, hall, q, rfl⟩ := hrel
    have HA : Hid (∀ j, j < k → s.data.toList[n + j]? = p.data.toList[j]?) := hall
    clear hall
    by_cases hlt : k < p.size
    · have h1 : (k : Int) < (p.size : Int) := by omega
      have h2 : (n : Int) + (k : Int) < (s.size : Int) := by omega
      have h3 : (0 : Int) ≤ (n : Int) + (k : Int) := by omega
      have h5 : ((n : Int) + (k : Int)).toNat = n + k := by omega
      have hw : IntKind.i64.wrap ((n : Int) + (k : Int)) = (n : Int) + (k : Int) := by rw [IntKind.wrap_i64]; omega
      have hns : n + k < s.size := by omega
      go_wp2
      go_region
      go_wp2
      · go_ret
        refine says_false (fun hat => ?_) _
        have hx := hat k hlt
        rw [byte_at s _ hns, byte_at p _ hlt, Option.some.injEq] at hx
        exact u8_ne (by assumption) hx
      · go_roundw
        case rel => exact ⟨k + 1, by omega, by go_num, all_succ HA.out (by rw [byte_at s _ hns, byte_at p _ hlt]; exact congrArg some (u8_of (by assumption))), _, rfl⟩
        case measure => simp [intOf]; omega
    · go_wp2
      go_ret
      exact says_true (fun j hj => HA.out j (by omega)) _

/-! ### The plain law -/
theorem at_iff (s p : ByteArray) (n : Nat) (hn : n + p.size ≤ s.size) : At s n p ↔ (s.data.toList.drop n).take p.size = p.data.toList := by
  have hs := size_list s
  have hp := size_list p
  constructor
  · intro h
    apply List.ext_getElem?
    intro i
    by_cases hi : i < p.size
    · rw [List.getElem?_take_of_lt hi, List.getElem?_drop]; exact h i hi
    · rw [List.getElem?_eq_none (by rw [List.length_take]; omega), List.getElem?_eq_none (by omega)]
  · intro h i hi
    rw [← h, List.getElem?_take_of_lt hi, List.getElem?_drop]
theorem toList_eq_iff (a b : ByteArray) : a.toList = b.toList ↔ a.data.toList = b.data.toList := by
  rw [ByteArray.toList_eq, ByteArray.toList_eq]
theorem hasPre_iff (s p : ByteArray) : hasPre s p = true ↔ p.size ≤ s.size ∧ At s 0 p := by
  unfold hasPre
  simp only [Bool.and_eq_true, decide_eq_true_eq, beq_iff_eq]
  constructor
  · rintro ⟨h1, h2⟩
    refine ⟨h1, (at_iff s p 0 (by omega)).2 ?_⟩
    rw [toList_eq_iff, ext_list] at h2
    exact h2
  · rintro ⟨h1, h2⟩
    refine ⟨h1, ?_⟩
    rw [toList_eq_iff, ext_list]
    exact (at_iff s p 0 (by omega)).1 h2
theorem hasSuf_iff (s p : ByteArray) : hasSuf s p = true ↔ p.size ≤ s.size ∧ At s (s.size - p.size) p := by
  have hs := size_list s
  unfold hasSuf
  simp only [Bool.and_eq_true, decide_eq_true_eq, beq_iff_eq]
  constructor
  · rintro ⟨h1, h2⟩
    refine ⟨h1, (at_iff s p _ (by omega)).2 ?_⟩
    rw [toList_eq_iff, ext_list, show s.size - (s.size - p.size) = p.size by omega] at h2
    exact h2
  · rintro ⟨h1, h2⟩
    refine ⟨h1, ?_⟩
    rw [toList_eq_iff, ext_list, show s.size - (s.size - p.size) = p.size by omega]
    exact (at_iff s p _ (by omega)).1 h2
theorem mid_size (s : ByteArray) : (s.extract 18 s.size).size = s.size - 18 := by
  rw [ByteArray.size_extract]; omega
theorem mid_suf (s : ByteArray) : hasSuf (s.extract 18 s.size) SUF = true ↔ 26 ≤ s.size ∧ At s (s.size - 8) SUF := by
  have hs := size_list s
  rw [hasSuf_iff, mid_size, show SUF.size = 8 from rfl]
  constructor
  · rintro ⟨h1, h2⟩
    refine ⟨by omega, fun i hi => ?_⟩
    have hi' : i < 8 := hi
    have h3 := h2 i hi
    rw [ext_list, List.getElem?_take_of_lt (by omega), List.getElem?_drop, show 18 + (s.size - 18 - 8 + i) = s.size - 8 + i by omega] at h3
    exact h3
  · rintro ⟨h1, h2⟩
    refine ⟨by omega, fun i hi => ?_⟩
    have hi' : i < 8 := hi
    rw [ext_list, List.getElem?_take_of_lt (by omega), List.getElem?_drop, show 18 + (s.size - 18 - 8 + i) = s.size - 8 + i by omega]
    exact h2 i hi
theorem issue_short (s : ByteArray) (h : ¬ (26 ≤ s.size ∧ At s 0 PRE ∧ At s (s.size - 8) SUF)) : issue s = s := by
  unfold issue
  by_cases h1 : hasPre s PRE = true
  · rw [if_pos h1]
    by_cases h2 : hasSuf (s.extract 18 s.size) SUF = true
    · exact absurd ⟨((mid_suf s).1 h2).1, ((hasPre_iff s PRE).1 h1).2, ((mid_suf s).1 h2).2⟩ h
    · rw [if_neg h2]
  · rw [if_neg h1]
theorem issue_long (s : ByteArray) (h1 : 26 ≤ s.size) (h2 : At s 0 PRE) (h3 : At s (s.size - 8) SUF) : issue s = s.extract 18 (s.size - 8) := by
  have hs := size_list s
  unfold issue
  rw [if_pos ((hasPre_iff s PRE).2 ⟨by show 18 ≤ _; omega, h2⟩), if_pos ((mid_suf s).2 ⟨h1, h3⟩)]
  apply bytes_ext
  rw [ext_list, ext_list, ext_list, mid_size, List.drop_zero, List.take_take]
  congr 1
  omega

theorem grown_drewN (w : World) : ∀ q, Grown w (w.drewN q)
  | 0 => Grown.refl _
  | q + 1 => (grown_drewN w q).drew
theorem drewN_drewN (w : World) (a : Nat) : ∀ b, ∃ c, (w.drewN a).drewN b = w.drewN c
  | 0 => ⟨a, rfl⟩
  | b + 1 => by
    obtain ⟨c, hc⟩ := drewN_drewN w a b
    exact ⟨c + 1, by show ((w.drewN a).drewN b).drew = (w.drewN c).drew; rw [hc]⟩
def RetTrue (w : World) (e : Ending) (w' : World) : Prop := e = .returned (.bool true) ∧ Grown w w'

set_option maxHeartbeats 1000000 in
theorem walk7 (s : ByteArray) (w0 : s.size ≤ maxLen) (w : World) : Calls Try.prog 7 #[.string s] w (RetTrue w) := by
  unfold maxLen at w0
  by_cases h : 1048576 < s.size
  · go_enter Try.func7, Try.ntmps7
    go_wp2
    go_ret
    exact ⟨rfl, Grown.refl _⟩
  have ep : PRE = ⟨#[47, 114, 101, 115, 116, 47, 97, 112, 105, 47, 51, 47, 105, 115, 115, 117, 101, 47]⟩ := rfl
  have es : SUF = ⟨#[47, 99, 111, 109, 109, 101, 110, 116]⟩ := rfl
  have HI := fun w => is22 s w (by unfold maxLen; omega)
  by_cases h26 : 26 ≤ s.size
  rotate_left
  · have HI' := HI w
    rw [issue_short s (fun h => h26 h.1)] at HI'
    clear HI ep es
    go_enter Try.func7, Try.ntmps7
    go_wp2_with (first | (go_at_call 22; refine HI'.mono ?_; rintro e w' ⟨rfl, rfl⟩) | (go_at_call 20; go_in))
    go_ret
    exact ⟨rfl, Grown.refl _⟩
  have H0 := hasAt21 s PRE 0 w (by omega) (by show 0 + 18 ≤ _; omega)
  have H1 := fun w => hasAt21 s SUF (s.size - 8) w (by omega) (by show s.size - 8 + 8 ≤ _; omega)
  have e8 : ((s.size - 8 : Nat) : Int) = (s.size : Int) - 8 := by omega
  rw [e8] at H1
  rw [show ((0 : Nat) : Int) = 0 from rfl] at H0
  by_cases hp : At s 0 PRE
  rotate_left
  · have HC := H0.mono (fun e w' => Says.no hp)
    have HI' := fun w => HI w
    rw [issue_short s (fun h => hp h.2.1)] at HI'
    rw [ep] at HC
    clear HI ep es H0 H1 e8 hp
    go_enter Try.func7, Try.ntmps7
    go_wp2_with (first | (go_at_call 22; refine (HI' _).mono ?_; rintro e w' ⟨rfl, rfl⟩) | (go_at_call 20; go_in) | (go_at_call 21; go_loud (refine HC.mono ?_; rintro e w' ⟨rfl, q, rfl⟩)))
    go_ret
    exact ⟨rfl, grown_drewN _ _⟩
  have HC := H0.mono (fun e w' => Says.yes hp)
  by_cases hs : At s (s.size - 8) SUF
  · have HD := fun w => (H1 w).mono (fun e w' => Says.yes hs)
    have HI' := fun w => HI w
    rw [issue_long s h26 hp hs] at HI'
    rw [ep] at HC
    rw [es] at HD
    clear HI ep es H0 H1 e8 hp hs
    go_enter Try.func7, Try.ntmps7
    go_wp2_with (go_at_call 20; go_in)
    refine HC.mono ?_
    rintro e w' ⟨rfl, q, rfl⟩
    go_wp2_with fail
    refine (HD _).mono ?_
    rintro e w' ⟨rfl, q2, rfl⟩
    obtain ⟨c, hc⟩ := drewN_drewN w q q2
    rw [hc]
    clear hc
    go_wp2_with fail
    refine (HI' _).mono ?_
    rintro e w' ⟨rfl, rfl⟩
    go_wp2
    go_ret
    exact ⟨rfl, grown_drewN _ _⟩
  · have HD := fun w => (H1 w).mono (fun e w' => Says.no hs)
    have HI' := fun w => HI w
    rw [issue_short s (fun h => hs h.2.2)] at HI'
    rw [ep] at HC
    rw [es] at HD
    clear HI ep es H0 H1 e8 hp hs
    go_enter Try.func7, Try.ntmps7
    go_wp2_with (go_at_call 20; go_in)
    refine HC.mono ?_
    rintro e w' ⟨rfl, q, rfl⟩
    go_wp2_with fail
    refine (HD _).mono ?_
    rintro e w' ⟨rfl, q2, rfl⟩
    obtain ⟨c, hc⟩ := drewN_drewN w q q2
    rw [hc]
    clear hc
    go_wp2_with fail
    refine (HI' _).mono ?_
    rintro e w' ⟨rfl, rfl⟩
    go_wp2
    go_ret
    exact ⟨rfl, grown_drewN _ _⟩
end Go.Proofs.Qxb6601700a
