/-
  evalAt, modelHolds: the value of the subexpression that ends at i is what the stack machine leaves; the walk of FnConditionHoldsMatchesTreeModel.
-/
import Derived.Test.Qxb6601324aMEval
import Derived.Test.Qxb6601324aCApp
namespace Go.Proofs.Qxb6601324a
open Go.RowKit
set_option linter.unusedSimpArgs false
set_option linter.unusedVariables false

theorem stk_pos {g : ByteArray → Option (Int × Int)} {ts : Nat → Trm} {s : Nat} {x : Bool} {r : List Bool} (h : stk g ts s = x :: r) : 0 < s := by
  cases s with
  | zero => cases h
  | succ s => omega
def EvalPost (G : ByteArray → Option (Int × Int)) (ps : Nat → Trm) (i : Nat) (w : World) (e : Ending) (w' : World) : Prop :=
  ∃ (v : Bool) (s : Nat), e = .returned (.tuple #[.bool v, .int .i64 (s : Int)]) ∧ s ≤ i ∧ stk G ps (i + 1) = v :: stk G ps s ∧ Below w.heap.size w w'

set_option maxHeartbeats 8000000 in
theorem eval31 (a : Option Addr) (n c : Nat) (ps : Nat → Trm) (a1 : Option Addr) (n1 c1 : Nat) (qs : Nat → Att) (d : Nat) (hd : dep ps n = some d) (hn : n ≤ 256) (hwf : ∀ k, k < n → InI64 (ps k).hi) (hq : ∀ k, k < n1 → InI64 (qs k).hi)
    (G : ByteArray → Option (Int × Int)) (hG : G = fun s => lastA qs s n1) :
    ∀ (k i : Nat) (z : Int) (w : World), i < k → z = (i : Int) → i < n → IsTrms w a n ps → IsAtts w a1 n1 qs →
      Calls Try.prog 31 #[.slice a n c, .slice a1 n1 c1, .int .i64 z] w (EvalPost G ps i w) := by
  intro k
  induction k with
  | zero => intro i z w hi; omega
  | succ k ih =>
    intro i z w hik hz hin h h1
    subst hz
    obtain ⟨b, off, rfl, hb, hp⟩ := h.at' i hin
    obtain ⟨d0, hd0⟩ := dep_some_of hd (Nat.le_of_lt hin)
    obtain ⟨d1, hd1⟩ := dep_some_of hd (show i + 1 ≤ n from hin)
    have hst := step_of_dep hd0 hd1
    have hlen := stk_length G ps i d0 hd0
    have hdk := dep_le ps i d0 hd0
    have hnext : stk G ps (i + 1) = stepT G (ps i) (stk G ps i) := rfl
    have hin' : (i : Int) < (n : Int) := by omega
    have hwi := hwf i hin
    obtain ⟨c0, cc1, c2, c3⟩ := hp
    generalize ps i = t at c0 cc1 c2 c3 hst hnext hwi
    obtain ⟨o, at1, hi, lo⟩ := t
    simp only at c0 cc1 c2 c3 hst hwi
    have HN : Hid (stk G ps (i + 1) = stepT G ⟨o, at1, hi, lo⟩ (stk G ps i)) := hnext
    clear hnext hd0 hd1
    by_cases e7 : o = 7
    · subst e7
      have hd2 : 2 ≤ d0 := by
        unfold stepD at hst
        simp at hst
        omega
      have hi1 : 1 ≤ i := by omega
      clear hst
      have B0 := Bx.new w 35 #[.int .u8 7, .string at1, .int .i64 hi, .int .u64 lo]
      have hbx := below_box w (.cells #[.int .u8 7, .string at1, .int .i64 hi, .int .u64 lo] 35)
      have I1 := fun z hz => ih (i - 1) z (w.alloc (.cells #[.int .u8 7, .string at1, .int .i64 hi, .int .u64 lo] 35)) (by omega) hz (by omega) (h.below hbx) (h1.below hbx)
      go_enter Try.func31, Try.ntmps31
      go_wp2_with fail
      refine (I1 _ (by omega)).mono ?_
      rintro e w1 ⟨vr, rs, rfl, hrs, hs1, hb1⟩
      rw [show i - 1 + 1 = i by omega] at hs1
      have hrl : (stk G ps rs).length + 1 = d0 := by rw [← hlen, hs1]; rfl
      obtain ⟨x, r, hxr⟩ : ∃ x r, stk G ps rs = x :: r := by
        cases hx : stk G ps rs with
        | nil => rw [hx] at hrl; simp at hrl; omega
        | cons x r => exact ⟨x, r, rfl⟩
      have hrs1 : 1 ≤ rs := stk_pos hxr
      have hb01 := hbx.trans (hb1.mono hbx.size)
      have B1 := B0.below hb1 B0.lt
      have I2 := fun z hz => ih (rs - 1) z w1 (by omega) hz (by omega) (h.below hb01) (h1.below hb01)
      have H1 : Hid (stk G ps i = vr :: stk G ps rs) := hs1
      clear I1 hb1 B0 hs1 hrl hxr hlen
      go_wp2_with fail
      refine (I2 _ (by omega)).mono ?_
      rintro e w2 ⟨vl, ls, rfl, hls, hs2, hb2⟩
      rw [show rs - 1 + 1 = rs by omega] at hs2
      have hb02 := hb01.trans (hb2.mono hb01.size)
      have B2 := B1.below hb2 B1.lt
      have d0' : w2.cell? ⟨w.heap.size, 0, none⟩ = some (.int .u8 7) := cell_of_row _ _ 0 _ _ _ B2
      have HR : Hid (stk G ps (i + 1) = (vl && vr) :: stk G ps ls) := HN.out.trans (by rw [H1.out, hs2]; simp [stepT])
      clear I2 hb2 B1 B2 hs2 H1 HN hb01
      cases vl
      all_goals
        go_wp2
        go_ret2
        exact ⟨_, ls, rfl, by omega, by rw [HR.out]; rfl, hb02⟩
    by_cases e8 : o = 8
    · subst e8
      have hd2 : 2 ≤ d0 := by
        unfold stepD at hst
        simp at hst
        omega
      have hi1 : 1 ≤ i := by omega
      clear hst
      have B0 := Bx.new w 35 #[.int .u8 8, .string at1, .int .i64 hi, .int .u64 lo]
      have hbx := below_box w (.cells #[.int .u8 8, .string at1, .int .i64 hi, .int .u64 lo] 35)
      have I1 := fun z hz => ih (i - 1) z (w.alloc (.cells #[.int .u8 8, .string at1, .int .i64 hi, .int .u64 lo] 35)) (by omega) hz (by omega) (h.below hbx) (h1.below hbx)
      go_enter Try.func31, Try.ntmps31
      go_wp2_with fail
      refine (I1 _ (by omega)).mono ?_
      rintro e w1 ⟨vr, rs, rfl, hrs, hs1, hb1⟩
      rw [show i - 1 + 1 = i by omega] at hs1
      have hrl : (stk G ps rs).length + 1 = d0 := by rw [← hlen, hs1]; rfl
      obtain ⟨x, r, hxr⟩ : ∃ x r, stk G ps rs = x :: r := by
        cases hx : stk G ps rs with
        | nil => rw [hx] at hrl; simp at hrl; omega
        | cons x r => exact ⟨x, r, rfl⟩
      have hrs1 : 1 ≤ rs := stk_pos hxr
      have hb01 := hbx.trans (hb1.mono hbx.size)
      have B1 := B0.below hb1 B0.lt
      have I2 := fun z hz => ih (rs - 1) z w1 (by omega) hz (by omega) (h.below hb01) (h1.below hb01)
      have H1 : Hid (stk G ps i = vr :: stk G ps rs) := hs1
      clear I1 hb1 B0 hs1 hrl hxr hlen
      go_wp2_with fail
      refine (I2 _ (by omega)).mono ?_
      rintro e w2 ⟨vl, ls, rfl, hls, hs2, hb2⟩
      rw [show rs - 1 + 1 = rs by omega] at hs2
      have hb02 := hb01.trans (hb2.mono hb01.size)
      have B2 := B1.below hb2 B1.lt
      have d0' : w2.cell? ⟨w.heap.size, 0, none⟩ = some (.int .u8 8) := cell_of_row _ _ 0 _ _ _ B2
      have HR : Hid (stk G ps (i + 1) = (vl || vr) :: stk G ps ls) := HN.out.trans (by rw [H1.out, hs2]; simp [stepT])
      clear I2 hb2 B1 B2 hs2 H1 HN hb01
      cases vl
      all_goals
        go_wp2
        go_ret2
        exact ⟨_, ls, rfl, by omega, by rw [HR.out]; rfl, hb02⟩
    by_cases e9 : o = 9
    · subst e9
      have hd2 : 1 ≤ d0 := by
        unfold stepD at hst
        simp at hst
        omega
      have hi1 : 1 ≤ i := by omega
      clear hst
      have hbx := below_box w (.cells #[.int .u8 9, .string at1, .int .i64 hi, .int .u64 lo] 35)
      have I1 := fun z hz => ih (i - 1) z (w.alloc (.cells #[.int .u8 9, .string at1, .int .i64 hi, .int .u64 lo] 35)) (by omega) hz (by omega) (h.below hbx) (h1.below hbx)
      go_enter Try.func31, Try.ntmps31
      go_wp2_with fail
      refine (I1 _ (by omega)).mono ?_
      rintro e w1 ⟨vr, rs, rfl, hrs, hs1, hb1⟩
      rw [show i - 1 + 1 = i by omega] at hs1
      have hb01 := hbx.trans (hb1.mono hbx.size)
      have HR : Hid (stk G ps (i + 1) = (!vr) :: stk G ps rs) := HN.out.trans (by rw [hs1]; simp [stepT])
      clear I1 hb1 hs1 HN hlen
      go_wp2
      go_ret2
      exact ⟨_, rs, rfl, by omega, by rw [HR.out], hb01⟩
    have HR : Hid (stk G ps (i + 1) = leaf G ⟨o, at1, hi, lo⟩ :: stk G ps i) := HN.out.trans (by simp [stepT, e7, e8, e9])
    have b7 : (o == 7) = false := by simpa using e7
    have b8 : (o == 8) = false := by simpa using e8
    have b9 : (o == 9) = false := by simpa using e9
    have hbx := below_box w (.cells #[.int .u8 o, .string at1, .int .i64 hi, .int .u64 lo] 35)
    have S := sat40 a1 n1 c1 qs ⟨o, at1, hi, lo⟩ _ (h1.below hbx) hwi hq
    rw [← hG] at S
    simp only at S
    clear hst HN e7 e8 e9 hlen ih hG
    go_enter Try.func31, Try.ntmps31
    go_wp2_with fail
    refine S.mono ?_
    rintro e w1 ⟨rfl, hb1⟩
    clear S
    go_wp2
    go_ret2
    exact ⟨_, i, rfl, Nat.le_refl _, HR.out, hbx.trans (hb1.mono hbx.size)⟩

/-- The bottom of a stack, v where it is empty. -/
def bot (v : Bool) (l : List Bool) : Bool := match l.reverse with | [] => v | b :: _ => b
theorem bot_cons (v x : Bool) (l : List Bool) : bot v (x :: l) = bot x l := by
  unfold bot
  rw [List.reverse_cons]
  cases l.reverse <;> rfl
theorem hold_bot (g : ByteArray → Option (Int × Int)) (ts : Nat → Trm) (n : Nat) : hold g ts n = bot true (stk g ts n) := rfl

set_option maxHeartbeats 2000000 in
theorem model13 (a : Option Addr) (n c : Nat) (ps : Nat → Trm) (a1 : Option Addr) (n1 c1 : Nat) (qs : Nat → Att) (d : Nat) (hd : dep ps n = some d) (hn : n ≤ 256) (hwf : ∀ k, k < n → InI64 (ps k).hi) (hq : ∀ k, k < n1 → InI64 (qs k).hi)
    (G : ByteArray → Option (Int × Int)) (hG : G = fun s => lastA qs s n1) (w : World) (h : IsTrms w a n ps) (h1 : IsAtts w a1 n1 qs) :
    Calls Try.prog 13 #[.slice a n c, .slice a1 n1 c1] w fun e w' => e = .returned (.bool (hold G ps n)) ∧ Below w.heap.size w w' := by
  have EV := eval31 a n c ps a1 n1 c1 qs d hd hn hwf hq G hG n
  have HB : Hid (hold G ps n = bot true (stk G ps n)) := hold_bot G ps n
  clear hd hwf hq hG
  go_enter Try.func13, Try.ntmps13
  go_wp2
  go_loopw [5, 6] (fun v i wr => ∃ (j : Nat) (x : Bool), j ≤ n ∧ i = .int .i64 ((j : Int) - 1) ∧ v = .bool x ∧ hold G ps n = bot x (stk G ps j) ∧ Below w.heap.size w wr) (fun _ i _ => (intOf i + 1).toNat)
  case atStart => exact ⟨n, true, Nat.le_refl _, rfl, rfl, HB.out, Below.refl _ _⟩
  case round =>
    obtain ⟨j, x, hj, rfl, rfl, hx, bel⟩ := hrel
    have HX : Hid (hold G ps n = bot x (stk G ps j)) := hx
    clear hx HB
    by_cases h0 : j = 0
    · subst h0
      go_wp2
      go_ret
      exact ⟨by rw [HX.out]; rfl, bel⟩
    have E1 := fun z hz => EV (j - 1) z wr (by omega) hz (by omega) (h.below bel) (h1.below bel)
    have hpos : (0 : Int) ≤ (j : Int) - 1 := by omega
    go_wp2_with fail
    refine (E1 _ (by omega)).mono ?_
    rintro e w1 ⟨v, s, rfl, hs, hst, hb1⟩
    rw [show j - 1 + 1 = j by omega] at hst
    have HY : Hid (hold G ps n = bot v (stk G ps s)) := HX.out.trans (by rw [hst, bot_cons])
    clear E1 HX hst
    go_wp2
    go_roundw
    case rel => exact ⟨s, v, by omega, by go_num, rfl, HY.out, bel.trans (hb1.mono bel.size)⟩
    case measure => simp [intOf]; omega

def RetTrueM (w : World) (e : Ending) (w' : World) : Prop := e = .returned (.bool true) ∧ Below w.heap.size w w'
set_option maxRecDepth 10000 in
set_option maxHeartbeats 4000000 in
theorem law3 (a : Option Addr) (n c : Nat) (ps : Nat → Trm) (a1 : Option Addr) (n1 c1 : Nat) (qs : Nat → Att) (w : World) (h : IsTrms w a n ps) (h1 : IsAtts w a1 n1 qs) (hwf : ∀ k, k < n → InI64 (ps k).hi) (hq : ∀ k, k < n1 → InI64 (qs k).hi) :
    Calls Try.prog 3 #[.slice a n c, .slice a1 n1 c1] w (RetTrueM w) := by
  have hl := h.le
  have hl1 := h1.le
  have HZ := zz8 a n c ps a1 n1 c1 qs w h h1
  by_cases l1 : 256 < n
  · go_enter Try.func3, Try.ntmps3
    go_wp2_with fail
    refine HZ.mono ?_
    rintro e w' ⟨⟨b, rfl⟩, rfl⟩
    cases b <;> (go_wp2; go_ret; exact ⟨rfl, Below.refl _ _⟩)
  by_cases l3 : 4096 < n1
  · go_enter Try.func3, Try.ntmps3
    go_wp2_with fail
    refine HZ.mono ?_
    rintro e w' ⟨⟨b, rfl⟩, rfl⟩
    cases b <;> (go_wp2; go_ret; exact ⟨rfl, Below.refl _ _⟩)
  have HF := fit9 a n c ps a1 n1 c1 qs w h h1 (by omega) (by omega)
  go_enter Try.func3, Try.ntmps3
  go_wp2_with fail
  refine HZ.mono ?_
  rintro e w' ⟨⟨b, rfl⟩, rfl⟩
  cases b with
  | false =>
    go_wp2
    go_ret
    exact ⟨rfl, Below.refl _ _⟩
  | true =>
  go_wp2_with fail
  refine HF.mono ?_
  rintro e w' ⟨⟨b, rfl, hb⟩, rfl⟩
  cases b with
  | false =>
    go_wp2
    go_ret
    exact ⟨rfl, Below.refl _ _⟩
  | true =>
  obtain ⟨d, hd⟩ := hb rfl
  clear HF HZ hb
  obtain ⟨w, rfl⟩ : ∃ v : World, v = w' := ⟨_, rfl⟩
  have HM := mkc11 a n c ps w h (by omega)
  go_wp2_with fail
  refine HM.mono ?_
  rintro e w1 ⟨g1, cap1, rfl, hT, hb1⟩
  have HA := mka12 a1 n1 c1 qs w1 (h1.below hb1)
  clear HM
  go_wp2_with fail
  refine HA.mono ?_
  rintro e w2 ⟨m, rfl, hlk, hb2⟩
  have hb02 := hb1.trans (hb2.mono hb1.size)
  clear HA
  obtain ⟨G, hG⟩ : ∃ G : ByteArray → Option (Int × Int), G = fun s => lastA qs s n1 := ⟨_, rfl⟩
  rw [← hG] at hlk
  have HH := hold10 (some ⟨g1, 0, none⟩) n cap1 ps m G d w2 (hT.below hb2) (by omega) hd hlk
  have HMo := fun (w3 : World) (hb3 : Below w.heap.size w w3) => model13 a n c ps a1 n1 c1 qs d hd (by omega) hwf hq G hG w3 (h.below hb3) (h1.below hb3)
  clear hd hG hwf hq hT hlk
  generalize hold G ps n = r at HH HMo
  go_wp2_with fail
  refine HH.mono ?_
  rintro e w3 ⟨rfl, hb3⟩
  have hb03 := hb02.trans (hb3.mono hb02.size)
  have HMo3 := HMo w3 hb03
  clear HH HMo
  go_wp2_with fail
  refine HMo3.mono ?_
  rintro e w4 ⟨rfl, hb4⟩
  clear HMo3
  go_wp2
  go_ret
  exact ⟨by simp, hb03.trans (hb4.mono hb03.size)⟩
end Go.Proofs.Qxb6601324a
