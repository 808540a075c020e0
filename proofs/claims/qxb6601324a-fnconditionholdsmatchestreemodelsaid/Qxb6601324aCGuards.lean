/-
  The guards of the laws over conditions.
-/
import Derived.Test.Qxb6601324aCBase
namespace Go.Proofs.Qxb6601324a
open Go.RowKit
set_option linter.unusedSimpArgs false
set_option linter.unusedVariables false

set_option maxRecDepth 100000 in
set_option maxHeartbeats 4000000 in
theorem zz14 (a : Option Addr) (n c : Nat) (ps : Nat → Trm) (a1 : Option Addr) (n1 c1 : Nat) (ps1 : Nat → Trm) (a2 : Option Addr) (n2 c2 : Nat) (ps2 : Nat → Att) (w : World) (h : IsTrms w a n ps) (h1 : IsTrms w a1 n1 ps1) (h2 : IsAtts w a2 n2 ps2) :
    Calls Try.prog 14 #[.slice a n c, .slice a1 n1 c1, .slice a2 n2 c2] w (BoolStill w) := by
  have hl := h.le
  have hl1 := h1.le
  have hl2 := h2.le
  go_enter Try.func14, Try.ntmps14
  go_wp2
  any_goals (go_ret; exact boolStill _)
  go_loop [7, 8] (fun s i => ∃ (k : Nat) (z : Int), k ≤ n ∧ 0 ≤ z ∧ z ≤ 1048576 ∧ i = .int .i64 k ∧ s = .int .i64 z) (fun _ i => n - (intOf i).toNat)
  case atStart => exact ⟨0, _, Nat.zero_le _, by omega, by omega, rfl, rfl⟩
  case round =>
    obtain ⟨k0, z0, hk0, hz00, hz10, rfl, rfl⟩ := hrel
    by_cases hlt : k0 < n
    · obtain ⟨b, off, rfl, hb', hp⟩ := h.at' k0 hlt
      have c0 := hp.c1
      go_wp2
      any_goals (go_ret; exact boolStill _)
      go_round
      case rel => exact ⟨k0 + 1, _, by omega, by omega, by omega, by go_num, rfl⟩
      case measure => simp [intOf]; omega
    · go_wp2
      any_goals (go_ret; exact boolStill _)
      go_loop [7, 9] (fun s i => ∃ (k : Nat) (z : Int), k ≤ n1 ∧ 0 ≤ z ∧ z ≤ 1048576 ∧ i = .int .i64 k ∧ s = .int .i64 z) (fun _ i => n1 - (intOf i).toNat)
      case atStart => exact ⟨0, _, Nat.zero_le _, by omega, by omega, rfl, rfl⟩
      case round =>
        obtain ⟨k1, z1, hk1, hz01, hz11, rfl, rfl⟩ := hrel
        by_cases hlt : k1 < n1
        · obtain ⟨b, off, rfl, hb', hp⟩ := h1.at' k1 hlt
          have c0 := hp.c1
          go_wp2
          any_goals (go_ret; exact boolStill _)
          go_round
          case rel => exact ⟨k1 + 1, _, by omega, by omega, by omega, by go_num, rfl⟩
          case measure => simp [intOf]; omega
        · go_wp2
          any_goals (go_ret; exact boolStill _)
          go_loop [7, 10] (fun s i => ∃ (k : Nat) (z : Int), k ≤ n2 ∧ 0 ≤ z ∧ z ≤ 1048576 ∧ i = .int .i64 k ∧ s = .int .i64 z) (fun _ i => n2 - (intOf i).toNat)
          case atStart => exact ⟨0, _, Nat.zero_le _, by omega, by omega, rfl, rfl⟩
          case round =>
            obtain ⟨k2, z2, hk2, hz02, hz12, rfl, rfl⟩ := hrel
            by_cases hlt : k2 < n2
            · obtain ⟨b, off, rfl, hb', hp⟩ := h2.at' k2 hlt
              have c0 := hp.c0
              go_wp2
              any_goals (go_ret; exact boolStill _)
              go_round
              case rel => exact ⟨k2 + 1, _, by omega, by omega, by omega, by go_num, rfl⟩
              case measure => simp [intOf]; omega
            · go_wp2
              all_goals (go_ret; exact boolStill _)

set_option maxRecDepth 100000 in
set_option maxHeartbeats 4000000 in
theorem zz8 (a : Option Addr) (n c : Nat) (ps : Nat → Trm) (a1 : Option Addr) (n1 c1 : Nat) (ps1 : Nat → Att) (w : World) (h : IsTrms w a n ps) (h1 : IsAtts w a1 n1 ps1) :
    Calls Try.prog 8 #[.slice a n c, .slice a1 n1 c1] w (BoolStill w) := by
  have hl := h.le
  have hl1 := h1.le
  go_enter Try.func8, Try.ntmps8
  go_wp2
  any_goals (go_ret; exact boolStill _)
  go_loop [5, 6] (fun s i => ∃ (k : Nat) (z : Int), k ≤ n ∧ 0 ≤ z ∧ z ≤ 1048576 ∧ i = .int .i64 k ∧ s = .int .i64 z) (fun _ i => n - (intOf i).toNat)
  case atStart => exact ⟨0, _, Nat.zero_le _, by omega, by omega, rfl, rfl⟩
  case round =>
    obtain ⟨k0, z0, hk0, hz00, hz10, rfl, rfl⟩ := hrel
    by_cases hlt : k0 < n
    · obtain ⟨b, off, rfl, hb', hp⟩ := h.at' k0 hlt
      have c0 := hp.c1
      go_wp2
      any_goals (go_ret; exact boolStill _)
      go_round
      case rel => exact ⟨k0 + 1, _, by omega, by omega, by omega, by go_num, rfl⟩
      case measure => simp [intOf]; omega
    · go_wp2
      any_goals (go_ret; exact boolStill _)
      go_loop [5, 7] (fun s i => ∃ (k : Nat) (z : Int), k ≤ n1 ∧ 0 ≤ z ∧ z ≤ 1048576 ∧ i = .int .i64 k ∧ s = .int .i64 z) (fun _ i => n1 - (intOf i).toNat)
      case atStart => exact ⟨0, _, Nat.zero_le _, by omega, by omega, rfl, rfl⟩
      case round =>
        obtain ⟨k1, z1, hk1, hz01, hz11, rfl, rfl⟩ := hrel
        by_cases hlt : k1 < n1
        · obtain ⟨b, off, rfl, hb', hp⟩ := h1.at' k1 hlt
          have c0 := hp.c0
          go_wp2
          any_goals (go_ret; exact boolStill _)
          go_round
          case rel => exact ⟨k1 + 1, _, by omega, by omega, by omega, by go_num, rfl⟩
          case measure => simp [intOf]; omega
        · go_wp2
          all_goals (go_ret; exact boolStill _)

set_option maxHeartbeats 1000000 in
theorem tby24 (a : Option Addr) (n c : Nat) (ps : Nat → Trm) (w : World) (h : IsTrms w a n ps) : Calls Try.prog 24 #[.slice a n c] w (IntStill w) := by
  have hl := h.le
  go_enter Try.func24, Try.ntmps24
  go_wp2
  go_loop [3, 8] (fun s i => ∃ (k : Nat) (z : Int), k ≤ n ∧ 0 ≤ z ∧ z ≤ 1048576 ∧ i = .int .i64 k ∧ s = .int .i64 z) (fun _ i => n - (intOf i).toNat)
  case atStart => exact ⟨0, _, Nat.zero_le _, by omega, by omega, rfl, rfl⟩
  case round =>
    obtain ⟨k, z, hk, hz0, hz1, rfl, rfl⟩ := hrel
    by_cases hlt : k < n
    · obtain ⟨b, off, rfl, hb', hp⟩ := h.at' k hlt
      have c0 := hp.c1
      go_wp2
      any_goals (go_ret; exact intStill _ (by decide) (by decide))
      go_round
      case rel => exact ⟨k + 1, _, by omega, by omega, by omega, by go_num, rfl⟩
      case measure => simp [intOf]; omega
    · go_wp2
      go_ret
      exact intStill _ (by omega) (by omega)

set_option maxHeartbeats 1000000 in
theorem tby25 (a : Option Addr) (n c : Nat) (ps : Nat → Att) (w : World) (h : IsAtts w a n ps) : Calls Try.prog 25 #[.slice a n c] w (IntStill w) := by
  have hl := h.le
  go_enter Try.func25, Try.ntmps25
  go_wp2
  go_loop [3, 8] (fun s i => ∃ (k : Nat) (z : Int), k ≤ n ∧ 0 ≤ z ∧ z ≤ 1048576 ∧ i = .int .i64 k ∧ s = .int .i64 z) (fun _ i => n - (intOf i).toNat)
  case atStart => exact ⟨0, _, Nat.zero_le _, by omega, by omega, rfl, rfl⟩
  case round =>
    obtain ⟨k, z, hk, hz0, hz1, rfl, rfl⟩ := hrel
    by_cases hlt : k < n
    · obtain ⟨b, off, rfl, hb', hp⟩ := h.at' k hlt
      have c0 := hp.c0
      go_wp2
      any_goals (go_ret; exact intStill _ (by decide) (by decide))
      go_round
      case rel => exact ⟨k + 1, _, by omega, by omega, by omega, by go_num, rfl⟩
      case measure => simp [intOf]; omega
    · go_wp2
      go_ret
      exact intStill _ (by omega) (by omega)

/-- What postfixDepth hands back. -/
def depV (ts : Nat → Trm) (n : Nat) : Value := match dep ts n with | some d => .tuple #[.int .i64 d, .bool true] | none => .tuple #[.int .i64 0, .bool false]
set_option maxHeartbeats 4000000 in
theorem pfd26 (a : Option Addr) (n c : Nat) (ps : Nat → Trm) (w : World) (h : IsTrms w a n ps) : Calls Try.prog 26 #[.slice a n c] w fun e w' => e = .returned (depV ps n) ∧ w' = w := by
  have hl := h.le
  have HV : Hid (∀ v, v = depV ps n → v = depV ps n) := fun v hv => hv
  have hno : ∀ k d, k < n → dep ps k = some d → stepD (ps k).op d = none → Ending.returned (Value.tuple #[.int .i64 0, .bool false]) = .returned (depV ps n) := by
    intro k d hk h1 h2
    unfold depV; rw [dep_succ_none h1 h2 hk]
  have HNO : Hid _ := hno
  clear hno
  have hyes : ∀ d, dep ps n = some d → Ending.returned (Value.tuple #[.int .i64 d, .bool true]) = .returned (depV ps n) := by
    intro d h1
    unfold depV; rw [h1]
  have HYES : Hid _ := hyes
  clear hyes HV
  generalize depV ps n = V at HNO HYES ⊢
  go_enter Try.func26, Try.ntmps26
  go_wp2
  go_loop [4, 9] (fun s i => ∃ (k d : Nat), k ≤ n ∧ d ≤ k ∧ dep ps k = some d ∧ i = .int .i64 k ∧ s = .int .i64 d) (fun _ i => n - (intOf i).toNat)
  case atStart => exact ⟨0, 0, Nat.zero_le _, Nat.le_refl _, rfl, rfl, rfl⟩
  case round =>
    obtain ⟨k, d, hk, hdk, hd, rfl, rfl⟩ := hrel
    have HD : Hid (dep ps k = some d) := hd
    clear hd
    by_cases hlt : k < n
    rotate_left
    · obtain rfl : k = n := by omega
      go_wp2
      go_ret2
      exact ⟨HYES.out d HD.out, rfl⟩
    obtain ⟨b, off, rfl, hb', hp⟩ := h.at' k hlt
    obtain ⟨o, ho⟩ : ∃ o, o = (ps k).op := ⟨_, rfl⟩
    have c0 := hp.c0
    rw [← ho] at c0
    have HO : Hid (o = (ps k).op) := ho
    have HS : Hid (∀ d', stepD o d = some d' → dep ps (k + 1) = some d') := fun d' hs => dep_succ_some HD.out (by rw [← HO.out]; exact hs)
    have HN : Hid (stepD o d = none → Ending.returned (Value.tuple #[.int .i64 0, .bool false]) = .returned V) := fun hs => HNO.out k d hlt HD.out (by rw [← HO.out]; exact hs)
    clear ho HO hp HD HNO HYES
    by_cases o1 : o < 1
    · have hs : stepD o d = none := by unfold stepD; rw [if_pos o1]
      have HR := HN.out hs
      clear hs HN HS
      go_wp2
      go_ret2
      exact ⟨HR, rfl⟩
    by_cases o9 : 9 < o
    · have hs : stepD o d = none := by unfold stepD; rw [if_neg o1, if_pos o9]
      have HR := HN.out hs
      clear hs HN HS
      go_wp2
      go_ret2
      exact ⟨HR, rfl⟩
    by_cases e7 : o = 7
    · subst e7
      by_cases d2 : d < 2
      · have HR := HN.out (by unfold stepD; simp [d2])
        clear HN HS
        go_wp2
        go_ret2
        exact ⟨HR, rfl⟩
      · have HR : Hid (dep ps (k + 1) = some (d - 1)) := HS.out (d - 1) (by unfold stepD; simp [d2])
        clear HN HS
        go_wp2
        go_round
        case rel => exact ⟨k + 1, d - 1, by omega, by omega, HR.out, by go_num, by go_num⟩
        case measure => simp [intOf]; omega
    by_cases e8 : o = 8
    · subst e8
      by_cases d2 : d < 2
      · have HR := HN.out (by unfold stepD; simp [d2])
        clear HN HS
        go_wp2
        go_ret2
        exact ⟨HR, rfl⟩
      · have HR : Hid (dep ps (k + 1) = some (d - 1)) := HS.out (d - 1) (by unfold stepD; simp [d2])
        clear HN HS
        go_wp2
        go_round
        case rel => exact ⟨k + 1, d - 1, by omega, by omega, HR.out, by go_num, by go_num⟩
        case measure => simp [intOf]; omega
    by_cases e9 : o = 9
    · subst e9
      by_cases d1 : d < 1
      · have HR := HN.out (by unfold stepD; simp [d1])
        clear HN HS
        go_wp2
        go_ret2
        exact ⟨HR, rfl⟩
      · have HR : Hid (dep ps (k + 1) = some d) := HS.out d (by unfold stepD; simp [d1])
        clear HN HS
        go_wp2
        go_round
        case rel => exact ⟨k + 1, d, by omega, by omega, HR.out, by go_num, by go_num⟩
        case measure => simp [intOf]; omega
    · have HR : Hid (dep ps (k + 1) = some (d + 1)) := HS.out (d + 1) (by unfold stepD; rw [if_neg o1, if_neg o9, if_neg e7, if_neg e8, if_neg e9])
      have b7 : (o == 7) = false := by simpa using e7
      have b8 : (o == 8) = false := by simpa using e8
      have b9 : (o == 9) = false := by simpa using e9
      clear HN HS e7 e8 e9
      go_wp2
      go_round
      case rel => exact ⟨k + 1, d + 1, by omega, by omega, HR.out, by go_num, by go_num⟩
      case measure => simp [intOf]; omega

end Go.Proofs.Qxb6601324a
