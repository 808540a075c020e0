/-
  FnOwedCommentsGrowsByOneAStep: the walk of the law.
-/
import Derived.Test.Qxb6601700aOBase
namespace Go.Proofs.Qxb6601700a
open Go.RowKit
set_option linter.unusedSimpArgs false
set_option linter.unusedVariables false

def RetTrueB (w : World) (e : Ending) (w' : World) : Prop := e = .returned (.bool true) ∧ Below w.heap.size w w'
theorem Cop.own {W wr : World} {cap k : Nat} {ss : Nat → ByteArray} (h : Cop W cap ss k wr) (hk : k ≤ cap) (hc : cap ≤ maxLen) : ∃ xs, wr.ownsRow W.heap.size 9 1 (.slice (some ⟨W.heap.size, 0, none⟩) k cap) k xs := by
  obtain ⟨h1, cs, h2, h3, h4⟩ := h
  refine ⟨cs.toList.take (k * 1), by simp [h3]; omega, Or.inr ⟨W.heap.size, cap, cs, rfl, Nat.le_refl _, h2, hk, hc, by omega, rfl⟩⟩
theorem cells_new1 (wr : World) (l : List Value) (t : TypeId) (j : Nat) (u : Value) (hj : l[j]? = some u) : (wr.alloc (.cells l.toArray t)).cell? ((⟨wr.heap.size, 0, none⟩ : Addr).add j) = some u := by
  have hadd : (⟨wr.heap.size, 0, none⟩ : Addr).add j = ⟨wr.heap.size, j, none⟩ := by unfold Addr.add; split <;> simp_all
  rw [hadd, cell_of_row _ _ _ _ _ _ (Bx.new wr t l.toArray)]
  simpa using hj
theorem owed_nil (n : Nat) (x : Bool) : owed none n x = 1 + (if x = true then 1 else 0) := rfl
theorem owed_some (a : Addr) (n : Nat) (x : Bool) : owed (some a) n x = (n : Int) + (if x = true then 1 else 0) := by simp [owed]

set_option maxRecDepth 10000 in
set_option maxHeartbeats 8000000 in
theorem law6 (a : Option Addr) (n c : Nat) (ss : Nat → ByteArray) (x : Bool) (s : ByteArray) (w : World) (h : IsStrs w a n ss) (hs : s.size ≤ maxLen) : Calls Try.prog 6 #[.slice a n c, .bool x, .string s] w (RetTrueB w) := by
  have heq := fun (w : World) (a : Option Addr) (n c : Nat) => Lib.run_eql_slice_nil (P := Try.prog) w 22 9 a n c 0 0 Try.underlying22
  have hne := fun (w : World) (a : Option Addr) (n c : Nat) => run_neq_slice_nil_any (P := Try.prog) w 22 9 a n c 0 0 Try.underlying22
  have HZ := zz19 a n c ss x s w h hs
  have HB := sb10 a n c ss w h
  have hl := h.le
  unfold maxLen at hs
  obtain ⟨i9, hi9, hz9, hs9, hy9⟩ := info_parts info9
  go_enter Try.func6, Try.ntmps6
  go_wp2_with fail
  refine HZ.mono ?_
  rintro e w' ⟨⟨b, rfl⟩, rfl⟩
  clear HZ
  cases b with
  | false =>
    go_wp2
    go_ret
    exact ⟨rfl, Below.refl _ _⟩
  | true =>
  by_cases l1 : 65536 < n
  · go_wp2
    go_ret
    exact ⟨rfl, Below.refl _ _⟩
  by_cases l2 : 1048576 < s.size
  · go_wp2
    go_ret
    exact ⟨rfl, Below.refl _ _⟩
  go_wp2_with fail
  refine HB.mono ?_
  rintro e w' ⟨⟨z, hz0, hz1, rfl⟩, rfl⟩
  clear HB
  by_cases l3 : 1048576 < z + 16 + (s.size : Int)
  · go_wp2
    go_ret
    exact ⟨rfl, Below.refl _ _⟩
  have HC := clone11 a n c ss w' h (by omega)
  go_wp2_with fail
  refine HC.mono ?_
  rintro e w1 ⟨a', c', rfl, hiff, hT, hb1⟩
  clear HC hiff h
  obtain ⟨w, rfl⟩ : ∃ v : World, v = w' := ⟨_, rfl⟩
  cases a' with
  | none =>
    obtain rfl : n = 0 := hT.nil rfl
    go_wp2_with (at_make; go_loud (refine wpList_make_lc rfl (.tmp 39) (.tmp 42) 22 rfl 9 i9 _ Try.underlying22 hi9 hz9 _ _ 0 (0 + 1) rfl rfl rfl rfl (by omega) (by rw [hy9]; omega) (by omega) ?_; intro cs hcs))
    rw [hs9] at hcs
    simp only [Nat.mul_one] at hcs
    clear hT
    cases x with
    | false =>
      have C0 : Cop w1 (0 + 1) ss 0 (w1.alloc (.cells cs 9)) := by rw [← hcs]; exact Cop.start w1 cs ss
      go_loopw [8] (fun i wr => ∃ k : Nat, k ≤ 0 ∧ i = .int .i64 k ∧ Cop w1 (0 + 1) ss k wr) (fun i _ => 0 - (intOf i).toNat)
      case atStart => exact ⟨0, Nat.zero_le _, rfl, C0⟩
      case round =>
        clear C0 hcs
        obtain ⟨k, hk, rfl, C⟩ := hrel
        obtain rfl : k = 0 := by omega
        obtain ⟨xs, hown⟩ := C.own (show 0 ≤ 0 + 1 by omega) (by unfold maxLen; omega)
        have hC1 := C.lt
        have hCb := C.bel
        have O1 := fun w => owed18 none 0 c' false w (by omega)
        go_wp2_with (at_builtin; refine wpList_append_fits _ rfl (.tmp 57) (.tmp 59) 22 rfl w1.heap.size 9 i9 1 Try.underlying22 hi9 hs9 w1.heap.size 0 (0 + 1) xs rfl (hown.alloc _) ⟨wr.heap.size, 0, none⟩ 1 1 [.string s] rfl rfl (by exact fun j u hj => cells_new1 _ _ _ j u hj) (by intro u hu; simp at hu; rcases hu with rfl; rfl) (by omega) ?_; intro w3 hown3 hg3; have b3 : Below w1.heap.size w1 w3 := (hCb.alloc hCb.size _).trans ((Below.refl _ _).grown hg3 (by simp; omega) (by intro q hq; simp at hq; omega)); clear hown3 hg3)
        refine (O1 w3).mono ?_
        rintro e w4 ⟨rfl, hb4⟩
        have b4 := b3.trans (hb4.mono b3.size)
        have O2 := fun w => owed18 none 0 c' true w (by omega)
        go_wp2_with fail
        refine (O2 w4).mono ?_
        rintro e w5 ⟨rfl, hb5⟩
        have b5 := b4.trans (hb5.mono b4.size)
        have O3 := fun w => owed18 none 0 c' false w (by omega)
        go_wp2_with fail
        refine (O3 w5).mono ?_
        rintro e w6 ⟨rfl, hb6⟩
        have b6 := b5.trans (hb6.mono b5.size)
        have O4 := fun w => owed18 (some ⟨w1.heap.size, 0, none⟩) (0 + 1) (0 + 1) false w (by omega)
        go_wp2_with fail
        refine (O4 w6).mono ?_
        rintro e w7 ⟨rfl, hb7⟩
        have b7 := b6.trans (hb7.mono b6.size)
        have bb := hb1.trans (b7.mono hb1.size)
        clear O1 O2 O3 O4 hb4 hb5 hb6 hb7 b3 b4 b5 b6 b7 C hown hCb
        simp only [owed_nil, owed_some]
        go_wp2
        go_ret
        exact ⟨rfl, bb⟩
    | true =>
      have C0 : Cop w1 (0 + 1) ss 0 (w1.alloc (.cells cs 9)) := by rw [← hcs]; exact Cop.start w1 cs ss
      go_loopw [8] (fun i wr => ∃ k : Nat, k ≤ 0 ∧ i = .int .i64 k ∧ Cop w1 (0 + 1) ss k wr) (fun i _ => 0 - (intOf i).toNat)
      case atStart => exact ⟨0, Nat.zero_le _, rfl, C0⟩
      case round =>
        clear C0 hcs
        obtain ⟨k, hk, rfl, C⟩ := hrel
        obtain rfl : k = 0 := by omega
        obtain ⟨xs, hown⟩ := C.own (show 0 ≤ 0 + 1 by omega) (by unfold maxLen; omega)
        have hC1 := C.lt
        have hCb := C.bel
        have O1 := fun w => owed18 none 0 c' false w (by omega)
        go_wp2_with (at_builtin; refine wpList_append_fits _ rfl (.tmp 57) (.tmp 59) 22 rfl w1.heap.size 9 i9 1 Try.underlying22 hi9 hs9 w1.heap.size 0 (0 + 1) xs rfl (hown.alloc _) ⟨wr.heap.size, 0, none⟩ 1 1 [.string s] rfl rfl (by exact fun j u hj => cells_new1 _ _ _ j u hj) (by intro u hu; simp at hu; rcases hu with rfl; rfl) (by omega) ?_; intro w3 hown3 hg3; have b3 : Below w1.heap.size w1 w3 := (hCb.alloc hCb.size _).trans ((Below.refl _ _).grown hg3 (by simp; omega) (by intro q hq; simp at hq; omega)); clear hown3 hg3)
        refine (O1 w3).mono ?_
        rintro e w4 ⟨rfl, hb4⟩
        have b4 := b3.trans (hb4.mono b3.size)
        have O2 := fun w => owed18 none 0 c' true w (by omega)
        go_wp2_with fail
        refine (O2 w4).mono ?_
        rintro e w5 ⟨rfl, hb5⟩
        have b5 := b4.trans (hb5.mono b4.size)
        have O3 := fun w => owed18 none 0 c' true w (by omega)
        go_wp2_with fail
        refine (O3 w5).mono ?_
        rintro e w6 ⟨rfl, hb6⟩
        have b6 := b5.trans (hb6.mono b5.size)
        have O4 := fun w => owed18 (some ⟨w1.heap.size, 0, none⟩) (0 + 1) (0 + 1) true w (by omega)
        go_wp2_with fail
        refine (O4 w6).mono ?_
        rintro e w7 ⟨rfl, hb7⟩
        have b7 := b6.trans (hb7.mono b6.size)
        have bb := hb1.trans (b7.mono hb1.size)
        clear O1 O2 O3 O4 hb4 hb5 hb6 hb7 b3 b4 b5 b6 b7 C hown hCb
        simp only [owed_nil, owed_some]
        go_wp2
        go_ret
        exact ⟨rfl, bb⟩
  | some aa =>
    go_wp2_with (at_make; go_loud (refine wpList_make_lc rfl (.tmp 39) (.tmp 42) 22 rfl 9 i9 _ Try.underlying22 hi9 hz9 _ _ n (n + 1) rfl rfl rfl (by omega) (by omega) (by rw [hy9]; omega) (by omega) ?_; intro cs hcs))
    rw [hs9] at hcs
    simp only [Nat.mul_one] at hcs
    cases x with
    | false =>
      have C0 : Cop w1 (n + 1) ss 0 (w1.alloc (.cells cs 9)) := by rw [← hcs]; exact Cop.start w1 cs ss
      go_loopw [8] (fun i wr => ∃ k : Nat, k ≤ n ∧ i = .int .i64 k ∧ Cop w1 (n + 1) ss k wr) (fun i _ => n - (intOf i).toNat)
      case atStart => exact ⟨0, Nat.zero_le _, rfl, C0⟩
      case round =>
        clear C0 hcs
        obtain ⟨k, hk, rfl, C⟩ := hrel
        by_cases hlt : k < n
        · obtain ⟨b, off, e, hb', hp⟩ := hT.at' k hlt
          obtain rfl : aa = ⟨b, off, none⟩ := by simpa using e
          clear e
          have p0 := (cell_of_below C.bel hb').trans hp
          obtain ⟨v0, hv0⟩ := C.there (show k < n + 1 by omega)
          have f0 := C.free k
          have hlt' : (k : Int) < (n : Int) := by omega
          have HC : Hid (Cop w1 (n + 1) ss (k + 1) (wr.setCell ⟨w1.heap.size, k, none⟩ (.string (ss k)))) := C.push (by omega)
          clear C hp
          go_wp2
          go_roundw
          case rel => exact ⟨k + 1, by omega, by go_num, HC.out⟩
          case measure => simp [intOf]; omega
        obtain rfl : k = n := by omega
        obtain ⟨xs, hown⟩ := C.own (show k ≤ k + 1 by omega) (by unfold maxLen; omega)
        have hC1 := C.lt
        have hCb := C.bel
        have O1 := fun w => owed18 (some aa) k c' false w (by omega)
        go_wp2_with (at_builtin; refine wpList_append_fits _ rfl (.tmp 57) (.tmp 59) 22 rfl w1.heap.size 9 i9 1 Try.underlying22 hi9 hs9 w1.heap.size k (k + 1) xs rfl (hown.alloc _) ⟨wr.heap.size, 0, none⟩ 1 1 [.string s] rfl rfl (by exact fun j u hj => cells_new1 _ _ _ j u hj) (by intro u hu; simp at hu; rcases hu with rfl; rfl) (by omega) ?_; intro w3 hown3 hg3; have b3 : Below w1.heap.size w1 w3 := (hCb.alloc hCb.size _).trans ((Below.refl _ _).grown hg3 (by simp; omega) (by intro q hq; simp at hq; omega)); clear hown3 hg3)
        refine (O1 w3).mono ?_
        rintro e w4 ⟨rfl, hb4⟩
        have b4 := b3.trans (hb4.mono b3.size)
        have O2 := fun w => owed18 (some aa) k c' true w (by omega)
        go_wp2_with fail
        refine (O2 w4).mono ?_
        rintro e w5 ⟨rfl, hb5⟩
        have b5 := b4.trans (hb5.mono b4.size)
        have O3 := fun w => owed18 (some aa) k c' false w (by omega)
        go_wp2_with fail
        refine (O3 w5).mono ?_
        rintro e w6 ⟨rfl, hb6⟩
        have b6 := b5.trans (hb6.mono b5.size)
        have O4 := fun w => owed18 (some ⟨w1.heap.size, 0, none⟩) (k + 1) (k + 1) false w (by omega)
        go_wp2_with fail
        refine (O4 w6).mono ?_
        rintro e w7 ⟨rfl, hb7⟩
        have b7 := b6.trans (hb7.mono b6.size)
        have bb := hb1.trans (b7.mono hb1.size)
        clear O1 O2 O3 O4 hb4 hb5 hb6 hb7 b3 b4 b5 b6 b7 C hown hCb
        simp only [owed_some]
        by_cases h0 : k = 0
        · subst h0
          go_wp2
          go_ret
          exact ⟨rfl, bb⟩
        · have h0' : ((k : Int) == 0) = false := by simp; omega
          have h0p : (0 : Int) ≤ (k : Int) := by omega
          clear h0
          go_wp2
          go_ret
          exact ⟨rfl, bb⟩
    | true =>
      have C0 : Cop w1 (n + 1) ss 0 (w1.alloc (.cells cs 9)) := by rw [← hcs]; exact Cop.start w1 cs ss
      go_loopw [8] (fun i wr => ∃ k : Nat, k ≤ n ∧ i = .int .i64 k ∧ Cop w1 (n + 1) ss k wr) (fun i _ => n - (intOf i).toNat)
      case atStart => exact ⟨0, Nat.zero_le _, rfl, C0⟩
      case round =>
        clear C0 hcs
        obtain ⟨k, hk, rfl, C⟩ := hrel
        by_cases hlt : k < n
        · obtain ⟨b, off, e, hb', hp⟩ := hT.at' k hlt
          obtain rfl : aa = ⟨b, off, none⟩ := by simpa using e
          clear e
          have p0 := (cell_of_below C.bel hb').trans hp
          obtain ⟨v0, hv0⟩ := C.there (show k < n + 1 by omega)
          have f0 := C.free k
          have hlt' : (k : Int) < (n : Int) := by omega
          have HC : Hid (Cop w1 (n + 1) ss (k + 1) (wr.setCell ⟨w1.heap.size, k, none⟩ (.string (ss k)))) := C.push (by omega)
          clear C hp
          go_wp2
          go_roundw
          case rel => exact ⟨k + 1, by omega, by go_num, HC.out⟩
          case measure => simp [intOf]; omega
        obtain rfl : k = n := by omega
        obtain ⟨xs, hown⟩ := C.own (show k ≤ k + 1 by omega) (by unfold maxLen; omega)
        have hC1 := C.lt
        have hCb := C.bel
        have O1 := fun w => owed18 (some aa) k c' false w (by omega)
        go_wp2_with (at_builtin; refine wpList_append_fits _ rfl (.tmp 57) (.tmp 59) 22 rfl w1.heap.size 9 i9 1 Try.underlying22 hi9 hs9 w1.heap.size k (k + 1) xs rfl (hown.alloc _) ⟨wr.heap.size, 0, none⟩ 1 1 [.string s] rfl rfl (by exact fun j u hj => cells_new1 _ _ _ j u hj) (by intro u hu; simp at hu; rcases hu with rfl; rfl) (by omega) ?_; intro w3 hown3 hg3; have b3 : Below w1.heap.size w1 w3 := (hCb.alloc hCb.size _).trans ((Below.refl _ _).grown hg3 (by simp; omega) (by intro q hq; simp at hq; omega)); clear hown3 hg3)
        refine (O1 w3).mono ?_
        rintro e w4 ⟨rfl, hb4⟩
        have b4 := b3.trans (hb4.mono b3.size)
        have O2 := fun w => owed18 (some aa) k c' true w (by omega)
        go_wp2_with fail
        refine (O2 w4).mono ?_
        rintro e w5 ⟨rfl, hb5⟩
        have b5 := b4.trans (hb5.mono b4.size)
        have O3 := fun w => owed18 (some aa) k c' true w (by omega)
        go_wp2_with fail
        refine (O3 w5).mono ?_
        rintro e w6 ⟨rfl, hb6⟩
        have b6 := b5.trans (hb6.mono b5.size)
        have O4 := fun w => owed18 (some ⟨w1.heap.size, 0, none⟩) (k + 1) (k + 1) true w (by omega)
        go_wp2_with fail
        refine (O4 w6).mono ?_
        rintro e w7 ⟨rfl, hb7⟩
        have b7 := b6.trans (hb7.mono b6.size)
        have bb := hb1.trans (b7.mono hb1.size)
        clear O1 O2 O3 O4 hb4 hb5 hb6 hb7 b3 b4 b5 b6 b7 C hown hCb
        simp only [owed_some]
        by_cases h0 : k = 0
        · subst h0
          go_wp2
          go_ret
          exact ⟨rfl, bb⟩
        · have h0' : ((k : Int) == 0) = false := by simp; omega
          have h0p : (0 : Int) ≤ (k : Int) := by omega
          clear h0
          go_wp2
          go_ret
          exact ⟨rfl, bb⟩
end Go.Proofs.Qxb6601700a
