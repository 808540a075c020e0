/-
  FnOwedCommentsCountsTheRecordOwed: the walk of the law.
-/
import Derived.Test.Qxb6601700aOAck
namespace Go.Proofs.Qxb6601700a
open Go.RowKit
set_option linter.unusedSimpArgs false
set_option linter.unusedVariables false

theorem info37 : (Try.prog.info? 37).map (fun i => (i.zero, i.size, i.bytes)) = some (some (.agg #[.string ⟨#[]⟩, .string ⟨#[]⟩, .bool false, .int .i64 0]), 4, 48) := by kernel_rfl
/-- A record in the making: the call's own row of the comments L. -/
structure Rec (W : World) (cap : Nat) (L : List Cm) (wr : World) : Prop where
  bel : Below W.heap.size W wr
  own : wr.ownsRow W.heap.size 37 4 (.slice (some ⟨W.heap.size, 0, none⟩) L.length cap) L.length (recCells L)
theorem Rec.start (W : World) (cap : Nat) (cs : Array Value) (hc : cs.size = cap * 4) (hm : cap ≤ maxLen) : Rec W cap [] (W.alloc (.cells cs 37)) :=
  ⟨below_box _ _, rfl, Or.inr ⟨W.heap.size, cap, cs, rfl, Nat.le_refl _, Bx.new _ _ _, Nat.zero_le _, hm, hc, rfl⟩⟩
theorem Rec.push {W wr w3 : World} {cap : Nat} {L : List Cm} {p : Cm} {o : Obj} (h : Rec W cap L wr) (h3 : w3.ownsRow W.heap.size 37 4 (.slice (some ⟨W.heap.size, 0, none⟩) (L.length + 1) cap) (L.length + 1) (recCells L ++ cmCells p)) (hg : (wr.alloc o).grownBy w3 (some W.heap.size)) : Rec W cap (L ++ [p]) w3 := by
  refine ⟨(h.bel.alloc h.bel.size _).trans ((Below.refl _ _).grown hg (by have := h.bel.size; simp; omega) (by intro q hq; simp at hq; omega)), ?_⟩
  rw [recCells_snoc] at h3
  simpa using h3
theorem Rec.isRec {W wr : World} {cap : Nat} {L : List Cm} (h : Rec W cap L wr) (hL : L.length ≤ 65538) : IsRec wr W.heap.size L := by
  have hlt : W.heap.size < wr.heap.size := by
    rcases h.own.2 with ⟨h0, _⟩ | ⟨g, c, cur, h0, _, hh, _⟩
    · cases h0
    · simp at h0
      obtain ⟨rfl, _⟩ := h0
      exact Bx.lt hh
  refine ⟨hL, hlt, fun k p hp => ?_⟩
  obtain ⟨r0, r1, r2, r3⟩ := recCells_at L k p hp
  have hk : k < L.length := by
    by_cases hk : k < L.length
    · exact hk
    · rw [List.getElem?_eq_none (by omega)] at hp; cases hp
  rw [h.own.cellAt _ (by omega), h.own.cellAt _ (by omega), h.own.cellAt _ (by omega), h.own.cellAt _ (by omega)]
  exact ⟨r0, r1, r2, r3⟩
theorem Rec.own' {W wr : World} {cap m : Nat} {L : List Cm} (h : Rec W cap L wr) (hm : L.length = m) : wr.ownsRow W.heap.size 37 4 (.slice (some ⟨W.heap.size, 0, none⟩) m cap) m (recCells L) := by
  subst hm
  exact h.own
theorem Rec.push' {W wr w3 : World} {cap m : Nat} {L : List Cm} {p : Cm} {o : Obj} (h : Rec W cap L wr) (hm : L.length = m) (h3 : w3.ownsRow W.heap.size 37 4 (.slice (some ⟨W.heap.size, 0, none⟩) (m + 1) cap) (m + 1) (recCells L ++ cmCells p)) (hg : (wr.alloc o).grownBy w3 (some W.heap.size)) : Rec W cap (L ++ [p]) w3 := by
  subst hm
  exact h.push h3 hg
theorem one_cmCells (p : Cm) : ∀ u ∈ cmCells p, u.oneCell' = true := by
  intro u hu
  simp [cmCells] at hu
  rcases hu with rfl | rfl | rfl | rfl <;> rfl

/-! ### The plain laws -/
def anyTask (L : List Cm) : Bool := L.any fun p => hasTask p.1
theorem foldl_plain (L : List Cm) (h : ∀ p ∈ L, p.2 = false) (v : Bool) : L.foldl ackStep (0, v) = (0, v || anyTask L) := by
  induction L generalizing v with
  | nil => simp [anyTask]
  | cons p L ih =>
    obtain ⟨t, ak⟩ := p
    obtain rfl : ak = false := h (t, ak) (by simp)
    have hr : ∀ p ∈ L, p.2 = false := fun p hp => h p (by simp [hp])
    by_cases ht : t.toList = []
    · rw [List.foldl_cons, ackStep_empty _ _ _ ht, ih hr]
      simp [anyTask, hasTask, ht]
    · rw [List.foldl_cons, ackStep_first _ _ ht, ih hr]
      simp [anyTask, hasTask, ht]
theorem acks_plain (L : List Cm) (h : ∀ p ∈ L, p.2 = false) : acks L = (0, anyTask L) := by
  unfold acks
  rw [foldl_plain L h]
  simp
theorem foldl_late (L : List Cm) (h : ∀ p ∈ L, p.2 = false) (v : Bool) : L.foldl ackStep (1, v) = (1, v) := by
  induction L with
  | nil => rfl
  | cons p L ih =>
    obtain ⟨t, ak⟩ := p
    obtain rfl : ak = false := h (t, ak) (by simp)
    rw [List.foldl_cons, ackStep_late _ _ _ (by omega), ih (fun p hp => h p (by simp [hp]))]
theorem acks_ann (t : ByteArray) (L : List Cm) (h : ∀ p ∈ L, p.2 = false) : acks ((t, true) :: L) = (1, false) := by
  unfold acks
  rw [List.foldl_cons, ackStep_ack, foldl_late L h]
theorem anyTask_snoc (L : List Cm) (p : Cm) : anyTask (L ++ [p]) = (anyTask L || hasTask p.1) := by simp [anyTask]
theorem ack15_ann (g c m : Nat) (L : List Cm) (w : World) (h : IsRec w g L) (hm : L.length = m) (ha : acks L = (1, false)) : Calls Try.prog 15 #[.slice (some ⟨g, 0, none⟩) m c] w fun e w' => e = .returned (.tuple #[.int .i64 1, .bool false]) ∧ Below w.heap.size w w' := by
  have := ack15 g c L w h
  rw [ha, hm] at this
  exact this
theorem ack15_plain (g c m : Nat) (L : List Cm) (w : World) (h : IsRec w g L) (hm : L.length = m) (ha : acks L = (0, anyTask L)) : Calls Try.prog 15 #[.slice (some ⟨g, 0, none⟩) m c] w fun e w' => e = .returned (.tuple #[.int .i64 0, .bool (anyTask L)]) ∧ Below w.heap.size w w' := by
  have := ack15 g c L w h
  rw [ha, hm] at this
  exact this
/-- The first k tasks as comments. -/
def tl (ss : Nat → ByteArray) (k : Nat) : List Cm := (List.range k).map fun j => (ss j, false)
theorem tl_length (ss : Nat → ByteArray) (k : Nat) : (tl ss k).length = k := by simp [tl]
theorem tl_succ (ss : Nat → ByteArray) (k : Nat) : tl ss k ++ [(ss k, false)] = tl ss (k + 1) := by simp [tl, List.range_succ]
theorem tl_plain (ss : Nat → ByteArray) (k : Nat) : ∀ p ∈ tl ss k, p.2 = false := by
  intro p hp
  simp [tl] at hp
  obtain ⟨j, _, rfl⟩ := hp
  rfl

set_option maxRecDepth 10000 in
set_option maxHeartbeats 8000000 in
theorem law5 (a : Option Addr) (n c : Nat) (ss : Nat → ByteArray) (x : Bool) (s : ByteArray) (w : World) (h : IsStrs w a n ss) (hs : s.size ≤ maxLen) : Calls Try.prog 5 #[.slice a n c, .bool x, .string s] w (RetTrueB w) := by
  have heq := fun (w : World) (a : Option Addr) (n c : Nat) => Lib.run_eql_slice_nil (P := Try.prog) w 22 9 a n c 0 0 Try.underlying22
  have HZ := zz17 a n c ss x s w h hs
  have HB := sb10 a n c ss w h
  have hl := h.le
  unfold maxLen at hs
  obtain ⟨i37, hi37, hz37, hs37, hy37⟩ := info_parts info37
  go_enter Try.func5, Try.ntmps5
  go_wp2_with fail
  refine HZ.mono ?_
  rintro e w' ⟨⟨b, rfl⟩, rfl⟩
  clear HZ
  cases b with
  | false =>
    go_wp2
    go_ret
    exact ⟨rfl, Below.refl _ _⟩
  | true =>
  by_cases l1 : 65536 < n
  · go_wp2
    go_ret
    exact ⟨rfl, Below.refl _ _⟩
  by_cases l2 : 1048576 < s.size
  · go_wp2
    go_ret
    exact ⟨rfl, Below.refl _ _⟩
  go_wp2_with fail
  refine HB.mono ?_
  rintro e w' ⟨⟨z, hz0, hz1, rfl⟩, rfl⟩
  clear HB
  by_cases l3 : 1048576 < z + (s.size : Int)
  · go_wp2
    go_ret
    exact ⟨rfl, Below.refl _ _⟩
  have HC := clone11 a n c ss w' h (by omega)
  go_wp2_with fail
  refine HC.mono ?_
  rintro e w1 ⟨a', c', rfl, hiff, hT, hb1⟩
  clear HC hiff h
  obtain ⟨w, rfl⟩ : ∃ v : World, v = w' := ⟨_, rfl⟩
  cases a' with
  | none =>
    obtain rfl : n = 0 := hT.nil rfl
    clear hT
    cases x with
    | false =>
      go_wp2_with (first | (at_make; refine wpList_make_lc rfl (.const (.int .i64 0)) (.tmp 38) 30 rfl 37 i37 _ Try.underlying30 hi37 hz37 _ _ 0 (0 + 2) rfl rfl rfl rfl (by omega) (by rw [hy37]; omega) (by omega) ?_; intro cs hcs; rw [hs37] at hcs; have R0 := Rec.start w1 (0 + 2) cs hcs (by unfold maxLen; omega); generalize w1.alloc (.cells cs 37) = wr at R0 ⊢; clear hcs) | (at_builtin; refine wpList_append_fits _ rfl (.tmp 47) (.tmp 50) 30 rfl w1.heap.size 37 i37 4 Try.underlying30 hi37 hs37 w1.heap.size 0 (0 + 2) (recCells []) rfl (R0.own.alloc _) ⟨wr.heap.size, 0, none⟩ 1 1 (cmCells (s, false)) rfl rfl (by exact fun j u hj => cells_new1 _ _ _ j u hj) (one_cmCells _) (by omega) ?_; intro w4 hown3 hg3; have R2 := R0.push hown3 hg3; clear hown3 hg3 R0))
      obtain ⟨L, hL⟩ : ∃ L : List Cm, L = [(s, false)] := ⟨_, rfl⟩
      have R : Rec w1 (0 + 2) L w4 := by rw [hL]; exact R2
      have hlen : L.length = 1 := by rw [hL]; rfl
      have hac : acks L = (0, anyTask L) := by rw [hL]; exact acks_plain _ (by simp)
      clear R2 hL
      have IR0 := R.isRec (by omega)
      have b4 := R.bel
      clear R
      have O1 := owed18 none 0 c' false w4 (by omega)
      refine O1.mono ?_
      rintro e w5 ⟨rfl, hb5⟩
      have IR := IR0.below hb5
      have b5 := b4.trans (hb5.mono b4.size)
      clear O1 IR0 b4 hb5
      have A1 := fun c => ack15_plain w1.heap.size c 1 L w5 IR hlen hac
      go_wp2_with fail
      refine (A1 _).mono ?_
      rintro e w6 ⟨rfl, hb6⟩
      have b6 := b5.trans (hb6.mono b5.size)
      have IR6 := IR.below hb6
      have bb := hb1.trans (b6.mono hb1.size)
      clear A1 IR b5 b6 hb6 hac
      simp only [owed_nil]
      go_wp2
      go_loop [13, 14] (fun v i => ∃ j : Nat, j ≤ 1 ∧ i = .int .i64 j ∧ v = .bool (anyTask (L.take j))) (fun _ i => 1 - (intOf i).toNat)
      case atStart => exact ⟨0, Nat.zero_le _, rfl, by simp [anyTask]⟩
      case round =>
        obtain ⟨j, hj, rfl, rfl⟩ := hrel
        by_cases hlt : j < 1
        · obtain ⟨p, hp⟩ : ∃ p, L[j]? = some p := ⟨_, List.getElem?_eq_getElem (by omega)⟩
          obtain ⟨p0, p1, p2, p3⟩ := IR6.at' j p hp
          have HS : Hid (anyTask (L.take (j + 1)) = (anyTask (L.take j) || hasTask p.1)) := by show anyTask _ = _; rw [take_snoc L j p hp]; exact anyTask_snoc _ _
          obtain ⟨t, ak⟩ := p
          dsimp only at p1 p2 HS
          clear hp hlen IR6 bb p0 p2 p3
          generalize anyTask (L.take j) = q at HS ⊢
          have hlt' : (j : Int) < ((1 : Nat) : Int) := by omega
          by_cases ht : t.toList = []
          · have HE : Hid (hasTask t = false) := by show hasTask t = false; simp [hasTask, ht]
            go_wp2
            go_round
            case rel => exact ⟨j + 1, by omega, by go_num, by rw [HS.out, HE.out]; simp⟩
            case measure => simp [intOf]; omega
          · have HE : Hid (hasTask t = true) := by show hasTask t = true; simp [hasTask, ht]
            have hbt : (!t.toList.isEmpty) = true := by simpa using ht
            go_wp2
            go_round
            case rel => exact ⟨j + 1, by omega, by go_num, by rw [HS.out, HE.out]; simp⟩
            case measure => simp [intOf]; omega
        · obtain rfl : j = 1 := by omega
          rw [List.take_of_length_le (by omega)]
          generalize anyTask L = q
          clear hlen IR6
          cases q
          all_goals
            go_wp2
            go_ret
            exact ⟨rfl, bb⟩
    | true =>
      go_wp2_with (first | (at_make; refine wpList_make_lc rfl (.const (.int .i64 0)) (.tmp 38) 30 rfl 37 i37 _ Try.underlying30 hi37 hz37 _ _ 0 (0 + 2) rfl rfl rfl rfl (by omega) (by rw [hy37]; omega) (by omega) ?_; intro cs hcs; rw [hs37] at hcs; have R0 := Rec.start w1 (0 + 2) cs hcs (by unfold maxLen; omega); generalize w1.alloc (.cells cs 37) = wr at R0 ⊢; clear hcs) | (at_builtin; refine wpList_append_fits _ rfl (.tmp 41) (.tmp 43) 30 rfl w1.heap.size 37 i37 4 Try.underlying30 hi37 hs37 w1.heap.size 0 (0 + 2) (recCells []) rfl (R0.own.alloc _) ⟨wr.heap.size, 0, none⟩ 1 1 (cmCells (⟨#[]⟩, true)) rfl rfl (by exact fun j u hj => cells_new1 _ _ _ j u hj) (one_cmCells _) (by omega) ?_; intro w3 hown3 hg3; have R1 := R0.push hown3 hg3; clear hown3 hg3 R0) | (at_builtin; refine wpList_append_fits _ rfl (.tmp 47) (.tmp 50) 30 rfl w1.heap.size 37 i37 4 Try.underlying30 hi37 hs37 w1.heap.size 1 (0 + 2) (recCells [(⟨#[]⟩, true)]) rfl (R1.own.alloc _) ⟨w3.heap.size, 0, none⟩ 1 1 (cmCells (s, false)) rfl rfl (by exact fun j u hj => cells_new1 _ _ _ j u hj) (one_cmCells _) (by omega) ?_; intro w4 hown3 hg3; have R2 := R1.push hown3 hg3; clear hown3 hg3 R1))
      obtain ⟨L, hL⟩ : ∃ L : List Cm, L = [(⟨#[]⟩, true), (s, false)] := ⟨_, rfl⟩
      have R : Rec w1 (0 + 2) L w4 := by rw [hL]; exact R2
      have hlen : L.length = 2 := by rw [hL]; rfl
      have hac : acks L = (1, false) := by rw [hL]; exact acks_ann _ _ (by simp)
      clear R2 hL
      have IR0 := R.isRec (by omega)
      have b4 := R.bel
      clear R
      have O1 := owed18 none 0 c' true w4 (by omega)
      refine O1.mono ?_
      rintro e w5 ⟨rfl, hb5⟩
      have IR := IR0.below hb5
      have b5 := b4.trans (hb5.mono b4.size)
      clear O1 IR0 b4 hb5
      have A1 := fun c => ack15_ann w1.heap.size c 2 L w5 IR hlen hac
      go_wp2_with fail
      refine (A1 _).mono ?_
      rintro e w6 ⟨rfl, hb6⟩
      have b6 := b5.trans (hb6.mono b5.size)
      have IR6 := IR.below hb6
      have bb := hb1.trans (b6.mono hb1.size)
      clear A1 IR b5 b6 hb6 hac
      simp only [owed_nil]
      go_wp2
      go_ret
      exact ⟨rfl, bb⟩
  | some aa =>
    cases x with
    | false =>
      go_wp2_with (first | (at_make; refine wpList_make_lc rfl (.const (.int .i64 0)) (.tmp 38) 30 rfl 37 i37 _ Try.underlying30 hi37 hz37 _ _ 0 (n + 2) rfl rfl rfl (by omega) (by omega) (by rw [hy37]; omega) (by omega) ?_; intro cs hcs; rw [hs37] at hcs; have R0 := Rec.start w1 (n + 2) cs hcs (by unfold maxLen; omega); generalize w1.alloc (.cells cs 37) = wr at R0 ⊢; clear hcs))
      go_loopw [7, 8] (fun r i wr => ∃ k : Nat, k ≤ n ∧ i = .int .i64 k ∧ r = .slice (some ⟨w1.heap.size, 0, none⟩) k (n + 2) ∧ Rec w1 (n + 2) (tl ss k) wr) (fun _ i _ => n - (intOf i).toNat)
      case atStart => exact ⟨0, Nat.zero_le _, rfl, rfl, R0⟩
      case round =>
        clear R0
        obtain ⟨k, hk, rfl, rfl, C⟩ := hrel
        by_cases hlt : k < n
        · obtain ⟨b, off, e, hb', hp⟩ := hT.at' k hlt
          obtain rfl : aa = ⟨b, off, none⟩ := by simpa using e
          clear e
          have p0 := (cell_of_below C.bel hb').trans hp
          have hlt' : (k : Int) < (n : Int) := by omega
          have hm : Hid ((tl ss k).length = k) := by show List.length _ = _; simp [tl_length]
          have hw : Hid ((tl ss k) ++ [(ss k, false)] = (tl ss (k + 1))) := by show _ ++ _ = _; simp [← tl_succ]
          generalize (tl ss k) = L0 at C hm hw
          clear hp
          go_wp2_with (at_builtin; refine wpList_append_fits _ rfl (.tmp 58) (.tmp 64) 30 rfl w1.heap.size 37 i37 4 Try.underlying30 hi37 hs37 w1.heap.size k (n + 2) (recCells L0) rfl ((C.own' hm.out).alloc _) ⟨wr.heap.size, 0, none⟩ 1 1 (cmCells (ss k, false)) rfl rfl (by exact fun j u hj => cells_new1 _ _ _ j u hj) (one_cmCells _) (by omega) ?_; intro w3 hown3 hg3; have R2 : Hid (Rec w1 (n + 2) (L0 ++ [(ss k, false)]) w3) := C.push' hm.out hown3 hg3; clear hown3 hg3 C)
          go_roundw
          case rel => exact ⟨k + 1, by omega, by go_num, rfl, by rw [← hw.out]; exact R2.out⟩
          case measure => simp [intOf]; omega
        obtain rfl : k = n := by omega
        have hlen0 : (tl ss k).length = k := by simp [tl_length]
        obtain ⟨L, hL⟩ : ∃ L : List Cm, L = (tl ss k) := ⟨_, rfl⟩
        have R : Rec w1 (k + 2) L wr := by rw [hL]; exact C
        have hlen : L.length = k := by rw [hL]; exact hlen0
        have hac : acks L = (0, anyTask L) := by rw [hL]; exact acks_plain _ (tl_plain _ _)
        clear C hL hlen0
        go_wp2_with fail
        have IR0 := R.isRec (by omega)
        have b4 := R.bel
        clear R
        have O1 := owed18 (some aa) k c' false wr (by omega)
        refine O1.mono ?_
        rintro e w5 ⟨rfl, hb5⟩
        have IR := IR0.below hb5
        have b5 := b4.trans (hb5.mono b4.size)
        clear O1 IR0 b4 hb5
        have A1 := fun c => ack15_plain w1.heap.size c k L w5 IR hlen hac
        go_wp2_with fail
        refine (A1 _).mono ?_
        rintro e w6 ⟨rfl, hb6⟩
        have b6 := b5.trans (hb6.mono b5.size)
        have IR6 := IR.below hb6
        have bb := hb1.trans (b6.mono hb1.size)
        clear A1 IR b5 b6 hb6 hac
        simp only [owed_some]
        go_wp2
        go_loop [13, 14] (fun v i => ∃ j : Nat, j ≤ k ∧ i = .int .i64 j ∧ v = .bool (anyTask (L.take j))) (fun _ i => k - (intOf i).toNat)
        case atStart => exact ⟨0, Nat.zero_le _, rfl, by simp [anyTask]⟩
        case round =>
          obtain ⟨j, hj, rfl, rfl⟩ := hrel
          by_cases hlt : j < k
          · obtain ⟨p, hp⟩ : ∃ p, L[j]? = some p := ⟨_, List.getElem?_eq_getElem (by omega)⟩
            obtain ⟨p0, p1, p2, p3⟩ := IR6.at' j p hp
            have HS : Hid (anyTask (L.take (j + 1)) = (anyTask (L.take j) || hasTask p.1)) := by show anyTask _ = _; rw [take_snoc L j p hp]; exact anyTask_snoc _ _
            obtain ⟨t, ak⟩ := p
            dsimp only at p1 p2 HS
            clear hp hlen IR6 bb p0 p2 p3
            generalize anyTask (L.take j) = q at HS ⊢
            have hlt' : (j : Int) < ((k : Nat) : Int) := by omega
            by_cases ht : t.toList = []
            · have HE : Hid (hasTask t = false) := by show hasTask t = false; simp [hasTask, ht]
              go_wp2
              go_round
              case rel => exact ⟨j + 1, by omega, by go_num, by rw [HS.out, HE.out]; simp⟩
              case measure => simp [intOf]; omega
            · have HE : Hid (hasTask t = true) := by show hasTask t = true; simp [hasTask, ht]
              have hbt : (!t.toList.isEmpty) = true := by simpa using ht
              go_wp2
              go_round
              case rel => exact ⟨j + 1, by omega, by go_num, by rw [HS.out, HE.out]; simp⟩
              case measure => simp [intOf]; omega
          · obtain rfl : j = k := by omega
            rw [List.take_of_length_le (by omega)]
            generalize anyTask L = q
            clear hlen IR6
            cases q
            all_goals
              go_wp2
              go_ret
              exact ⟨rfl, bb⟩
    | true =>
      go_wp2_with (first | (at_make; refine wpList_make_lc rfl (.const (.int .i64 0)) (.tmp 38) 30 rfl 37 i37 _ Try.underlying30 hi37 hz37 _ _ 0 (n + 2) rfl rfl rfl (by omega) (by omega) (by rw [hy37]; omega) (by omega) ?_; intro cs hcs; rw [hs37] at hcs; have R0 := Rec.start w1 (n + 2) cs hcs (by unfold maxLen; omega); generalize w1.alloc (.cells cs 37) = wr at R0 ⊢; clear hcs) | (at_builtin; refine wpList_append_fits _ rfl (.tmp 41) (.tmp 43) 30 rfl w1.heap.size 37 i37 4 Try.underlying30 hi37 hs37 w1.heap.size 0 (n + 2) (recCells []) rfl (R0.own.alloc _) ⟨wr.heap.size, 0, none⟩ 1 1 (cmCells (⟨#[]⟩, true)) rfl rfl (by exact fun j u hj => cells_new1 _ _ _ j u hj) (one_cmCells _) (by omega) ?_; intro w3 hown3 hg3; have R1 := R0.push hown3 hg3; clear hown3 hg3 R0))
      go_loopw [7, 8] (fun r i wr => ∃ k : Nat, k ≤ n ∧ i = .int .i64 k ∧ r = .slice (some ⟨w1.heap.size, 0, none⟩) (k + 1) (n + 2) ∧ Rec w1 (n + 2) (([(⟨#[]⟩, true)] : List Cm) ++ tl ss k) wr) (fun _ i _ => n - (intOf i).toNat)
      case atStart => exact ⟨0, Nat.zero_le _, rfl, rfl, R1⟩
      case round =>
        clear R1
        obtain ⟨k, hk, rfl, rfl, C⟩ := hrel
        by_cases hlt : k < n
        · obtain ⟨b, off, e, hb', hp⟩ := hT.at' k hlt
          obtain rfl : aa = ⟨b, off, none⟩ := by simpa using e
          clear e
          have p0 := (cell_of_below C.bel hb').trans hp
          have hlt' : (k : Int) < (n : Int) := by omega
          have hm : Hid ((([(⟨#[]⟩, true)] : List Cm) ++ tl ss k).length = (k + 1)) := by show List.length _ = _; simp [tl_length]
          have hw : Hid ((([(⟨#[]⟩, true)] : List Cm) ++ tl ss k) ++ [(ss k, false)] = (([(⟨#[]⟩, true)] : List Cm) ++ tl ss (k + 1))) := by show _ ++ _ = _; simp [← tl_succ]
          generalize (([(⟨#[]⟩, true)] : List Cm) ++ tl ss k) = L0 at C hm hw
          clear hp
          go_wp2_with (at_builtin; refine wpList_append_fits _ rfl (.tmp 58) (.tmp 64) 30 rfl w1.heap.size 37 i37 4 Try.underlying30 hi37 hs37 w1.heap.size (k + 1) (n + 2) (recCells L0) rfl ((C.own' hm.out).alloc _) ⟨wr.heap.size, 0, none⟩ 1 1 (cmCells (ss k, false)) rfl rfl (by exact fun j u hj => cells_new1 _ _ _ j u hj) (one_cmCells _) (by omega) ?_; intro w3 hown3 hg3; have R2 : Hid (Rec w1 (n + 2) (L0 ++ [(ss k, false)]) w3) := C.push' hm.out hown3 hg3; clear hown3 hg3 C)
          go_roundw
          case rel => exact ⟨k + 1, by omega, by go_num, rfl, by rw [← hw.out]; exact R2.out⟩
          case measure => simp [intOf]; omega
        obtain rfl : k = n := by omega
        have hlen0 : (([(⟨#[]⟩, true)] : List Cm) ++ tl ss k).length = (k + 1) := by simp [tl_length]
        obtain ⟨L, hL⟩ : ∃ L : List Cm, L = (([(⟨#[]⟩, true)] : List Cm) ++ tl ss k) := ⟨_, rfl⟩
        have R : Rec w1 (k + 2) L wr := by rw [hL]; exact C
        have hlen : L.length = (k + 1) := by rw [hL]; exact hlen0
        have hac : acks L = (1, false) := by rw [hL]; exact acks_ann _ _ (tl_plain _ _)
        clear C hL hlen0
        go_wp2_with fail
        have IR0 := R.isRec (by omega)
        have b4 := R.bel
        clear R
        have O1 := owed18 (some aa) k c' true wr (by omega)
        refine O1.mono ?_
        rintro e w5 ⟨rfl, hb5⟩
        have IR := IR0.below hb5
        have b5 := b4.trans (hb5.mono b4.size)
        clear O1 IR0 b4 hb5
        have A1 := fun c => ack15_ann w1.heap.size c (k + 1) L w5 IR hlen hac
        go_wp2_with fail
        refine (A1 _).mono ?_
        rintro e w6 ⟨rfl, hb6⟩
        have b6 := b5.trans (hb6.mono b5.size)
        have IR6 := IR.below hb6
        have bb := hb1.trans (b6.mono hb1.size)
        clear A1 IR b5 b6 hb6 hac
        simp only [owed_some]
        go_wp2
        go_ret
        exact ⟨rfl, bb⟩
end Go.Proofs.Qxb6601700a
