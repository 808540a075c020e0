/-
  composeFit, holdsFit: where they say yes.
-/
import Derived.Test.Qxb6601324aCGuards
namespace Go.Proofs.Qxb6601324a
open Go.RowKit
set_option linter.unusedSimpArgs false
set_option linter.unusedVariables false
def FitStill (p : Prop) (w : World) (e : Ending) (w' : World) : Prop := (∃ b : Bool, e = .returned (.bool b) ∧ (b = true → p)) ∧ w' = w
theorem fit_no {p : Prop} {w : World} : FitStill p w (.returned (.bool false)) w := ⟨⟨false, rfl, fun h => by cases h⟩, rfl⟩
theorem fit_yes {p : Prop} {w : World} (hp : p) (b : Bool) : FitStill p w (.returned (.bool b)) w := ⟨⟨b, rfl, fun _ => hp⟩, rfl⟩
theorem depV_some {ts : Nat → Trm} {n d : Nat} (h : dep ts n = some d) : depV ts n = .tuple #[.int .i64 d, .bool true] := by unfold depV; rw [h]
theorem depV_none {ts : Nat → Trm} {n : Nat} (h : dep ts n = none) : depV ts n = .tuple #[.int .i64 0, .bool false] := by unfold depV; rw [h]

set_option maxHeartbeats 2000000 in
theorem fit9 (a : Option Addr) (n c : Nat) (ps : Nat → Trm) (a1 : Option Addr) (n1 c1 : Nat) (qs : Nat → Att) (w : World) (h : IsTrms w a n ps) (h1 : IsAtts w a1 n1 qs) (hn : n ≤ 256) (hn1 : n1 ≤ 4096) :
    Calls Try.prog 9 #[.slice a n c, .slice a1 n1 c1] w (FitStill (∃ d, dep ps n = some d) w) := by
  have T := tby24 a n c ps w h
  have U := tby25 a1 n1 c1 qs w h1
  have D := pfd26 a n c ps w h
  go_enter Try.func9, Try.ntmps9
  go_wp2_with fail
  refine T.mono ?_
  rintro e w' ⟨⟨x, hx0, hx1, rfl⟩, rfl⟩
  go_wp2_with fail
  refine U.mono ?_
  rintro e w' ⟨⟨y, hy0, hy1, rfl⟩, rfl⟩
  clear T U
  by_cases hxy : 1048576 < x + y
  · go_wp2
    go_ret
    exact fit_no
  cases hd : dep ps n with
  | none =>
    rw [depV_none hd] at D
    go_wp2_with fail
    refine D.mono ?_
    rintro e w' ⟨rfl, rfl⟩
    go_wp2
    go_ret
    exact fit_no
  | some d =>
    rw [depV_some hd] at D
    have HD : Hid (dep ps n = some d) := hd
    clear hd
    go_wp2_with fail
    refine D.mono ?_
    rintro e w' ⟨rfl, rfl⟩
    go_wp2
    go_ret
    exact fit_yes ⟨d, HD.out⟩ _
set_option maxRecDepth 20000 in
set_option maxHeartbeats 4000000 in
theorem fit15 (a : Option Addr) (n c : Nat) (ps : Nat → Trm) (a2 : Option Addr) (n2 c2 : Nat) (ps2 : Nat → Trm) (a1 : Option Addr) (n1 c1 : Nat) (qs : Nat → Att) (w : World) (h : IsTrms w a n ps) (h2 : IsTrms w a2 n2 ps2) (h1 : IsAtts w a1 n1 qs) (hn : n ≤ 256) (hn2 : n2 ≤ 256) (hn1 : n1 ≤ 4096) :
    Calls Try.prog 15 #[.slice a n c, .slice a2 n2 c2, .slice a1 n1 c1] w (FitStill (n + n2 + 1 ≤ 256 ∧ dep ps n = some 1 ∧ dep ps2 n2 = some 1) w) := by
  by_cases hs0 : 256 < n + n2 + 1
  · have hs : (256 : Int) < (n : Int) + (n2 : Int) + 1 := by omega
    clear hs0
    go_enter Try.func15, Try.ntmps15
    go_wp2
    go_ret
    exact fit_no
  have HS : Hid (n + n2 + 1 ≤ 256) := Nat.not_lt.1 hs0
  have hs : ¬ (256 : Int) < (n : Int) + (n2 : Int) + 1 := by omega
  clear hs0
  have T := tby24 a n c ps w h
  have T2 := tby24 a2 n2 c2 ps2 w h2
  have U := tby25 a1 n1 c1 qs w h1
  have D := pfd26 a n c ps w h
  have D2 := pfd26 a2 n2 c2 ps2 w h2
  go_enter Try.func15, Try.ntmps15
  go_wp2_with fail
  refine T.mono ?_
  rintro e w' ⟨⟨x, hx0, hx1, rfl⟩, rfl⟩
  go_wp2_with fail
  refine T2.mono ?_
  rintro e w' ⟨⟨y, hy0, hy1, rfl⟩, rfl⟩
  go_wp2_with fail
  refine U.mono ?_
  rintro e w' ⟨⟨z, hz0, hz1, rfl⟩, rfl⟩
  clear T T2 U
  by_cases hxy : 1048576 < x + y + z
  · go_wp2
    go_ret
    exact fit_no
  cases hd : dep ps n with
  | none =>
    rw [depV_none hd] at D
    go_wp2_with fail
    refine D.mono ?_
    rintro e w' ⟨rfl, rfl⟩
    cases hd2 : dep ps2 n2 with
    | none =>
      rw [depV_none hd2] at D2
      go_wp2_with fail
      refine D2.mono ?_
      rintro e w' ⟨rfl, rfl⟩
      go_wp2
      go_ret
      exact fit_no
    | some d2 =>
      rw [depV_some hd2] at D2
      go_wp2_with fail
      refine D2.mono ?_
      rintro e w' ⟨rfl, rfl⟩
      go_wp2
      go_ret
      exact fit_no
  | some d =>
    rw [depV_some hd] at D
    have hdl := dep_le ps n d hd
    have HD : Hid (dep ps n = some d) := hd
    clear hd
    go_wp2_with fail
    refine D.mono ?_
    rintro e w' ⟨rfl, rfl⟩
    cases hd2 : dep ps2 n2 with
    | none =>
      rw [depV_none hd2] at D2
      go_wp2_with fail
      refine D2.mono ?_
      rintro e w' ⟨rfl, rfl⟩
      go_wp2
      go_ret
      exact fit_no
    | some d2 =>
      rw [depV_some hd2] at D2
      have hdl2 := dep_le ps2 n2 d2 hd2
      have HD2 : Hid (dep ps2 n2 = some d2) := hd2
      clear hd2
      go_wp2_with fail
      refine D2.mono ?_
      rintro e w' ⟨rfl, rfl⟩
      by_cases e1 : d = 1
      rotate_left
      · have b1 : ((d : Int) == 1) = false := by simp; omega
        go_wp2
        go_ret
        exact fit_no
      subst e1
      by_cases e2 : d2 = 1
      rotate_left
      · have b2 : ((d2 : Int) == 1) = false := by simp; omega
        go_wp2
        go_ret
        exact fit_no
      subst e2
      go_wp2
      go_ret
      exact fit_yes ⟨HS.out, HD.out, HD2.out⟩ _
end Go.Proofs.Qxb6601324a
