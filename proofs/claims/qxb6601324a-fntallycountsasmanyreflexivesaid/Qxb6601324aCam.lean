/-
  sameItem, distinctItems, (tally).countsAsMany: what they answer.
-/
import Derived.Test.Qxb6601324aSame
import Derived.Test.Qxb6601324aGuards2
namespace Go.Proofs.Qxb6601324a
open Go.RowKit
set_option linter.unusedSimpArgs false
set_option linter.unusedVariables false

theorem eql76 (p q : Par) (w : World) : (binOp .eql 76 (.agg #[.string p.nm, .int .u8 p.fn, .string p.attr, .int .u64 p.ver]) (.agg #[.string q.nm, .int .u8 q.fn, .string q.attr, .int .u64 q.ver])).run Try.prog w = .ok (.bool (p.item q)) w := by
  rw [run_eql_struct, eq76]; rfl
set_option maxHeartbeats 400000 in
theorem sameItem42 (p q : Par) (w : World) : Calls Try.prog 42 #[.agg #[.string p.nm, .int .u8 p.fn, .string p.attr, .int .u64 p.ver, .int .u64 p.n, .int .i64 p.hi, .int .u64 p.lo], .agg #[.string q.nm, .int .u8 q.fn, .string q.attr, .int .u64 q.ver, .int .u64 q.n, .int .i64 q.hi, .int .u64 q.lo]] w fun e w' => e = .returned (.bool (p.item q)) ∧ Below w.heap.size w w' := by
  have hid : Hid (p.item q = (p.nm.toList == q.nm.toList && (p.fn == q.fn && (p.attr.toList == q.attr.toList && p.ver == q.ver)))) := rfl
  by_cases h0 : p.nm.toList = q.nm.toList
  rotate_left
  · have h0' : (p.nm.toList == q.nm.toList) = false := by simpa using h0
    go_enter Try.func42, Try.ntmps42
    go_wp2
    go_ret
    exact ⟨by rw [hid.out, h0']; rfl, below_box2 _ _ _⟩
  have h0' : (p.nm.toList == q.nm.toList) = true := by simpa using h0
  by_cases h1 : p.fn = q.fn
  rotate_left
  · have h1' : (p.fn == q.fn) = false := by simpa using h1
    go_enter Try.func42, Try.ntmps42
    go_wp2
    go_ret
    exact ⟨by rw [hid.out, h0', h1']; rfl, below_box2 _ _ _⟩
  have h1' : (p.fn == q.fn) = true := by simpa using h1
  clear h1
  by_cases h2 : p.attr.toList = q.attr.toList
  rotate_left
  · have h2' : (p.attr.toList == q.attr.toList) = false := by simpa using h2
    go_enter Try.func42, Try.ntmps42
    go_wp2
    go_ret
    exact ⟨by rw [hid.out, h0', h1', h2']; rfl, below_box2 _ _ _⟩
  have h2' : (p.attr.toList == q.attr.toList) = true := by simpa using h2
  have H : Hid ((p.nm.toList == q.nm.toList) = true ∧ (p.fn == q.fn) = true ∧ (p.attr.toList == q.attr.toList) = true) := ⟨h0', h1', h2'⟩
  clear h0 h2
  go_enter Try.func42, Try.ntmps42
  go_wp2
  all_goals (go_ret; exact ⟨by rw [hid.out, H.out.1, H.out.2.1, H.out.2.2]; first | rfl | simp [*], below_box2 _ _ _⟩)

/-- No two are of the same item. -/
def Distinct (ps : Nat → Par) (n : Nat) : Prop := ∀ i j, i < j → j < n → (ps i).item (ps j) = false
set_option maxRecDepth 10000 in
set_option maxHeartbeats 2000000 in
theorem distinct38 (a : Option Addr) (n c : Nat) (ps : Nat → Par) (w : World) (h : IsPars w a n ps) : Calls Try.prog 38 #[.slice a n c] w (SaysB (Distinct ps n) w) := by
  have hl := h.le
  go_enter Try.func38, Try.ntmps38
  go_wp2
  go_loopw [7] (fun i wr => ∃ k : Nat, k ≤ n ∧ i = .int .i64 k ∧ (∀ i, i < k → ∀ j, i < j → j < n → (ps i).item (ps j) = false) ∧ Below w.heap.size w wr) (fun i _ => n - (intOf i).toNat)
  case atStart => exact ⟨0, Nat.zero_le _, rfl, fun i hi => by omega, Below.refl _ _⟩
  case round =>
    obtain ⟨k, hk, rfl, hall, bel⟩ := hrel
    have HA : Hid (∀ i, i < k → ∀ j, i < j → j < n → (ps i).item (ps j) = false) := hall
    clear hall
    by_cases hlt : k < n
    rotate_left
    · go_wp2
      go_ret
      exact says_true (fun i j hij hj => HA.out i (by omega) j hij hj) bel
    go_wp2
    go_loopw [4] (fun jv wr => ∃ j : Nat, k + 1 ≤ j ∧ j ≤ n ∧ jv = .int .i64 j ∧ (∀ j', k < j' → j' < j → (ps k).item (ps j') = false) ∧ Below w.heap.size w wr) (fun i _ => n - (intOf i).toNat)
    case atStart => exact ⟨k + 1, Nat.le_refl _, by omega, by go_num, fun j' h1 h2 => by omega, bel⟩
    case round =>
      clear bel
      obtain ⟨j, hj1, hj2, rfl, hall, bel⟩ := hrel
      have HB : Hid (∀ j', k < j' → j' < j → (ps k).item (ps j') = false) := hall
      clear hall
      by_cases hlt2 : j < n
      rotate_left
      · go_wp2
        go_roundw
        case rel => exact ⟨k + 1, by omega, by go_num, all_succ HA.out (fun j' h1 h2 => HB.out j' h1 (by omega)), bel⟩
        case measure => simp [intOf]; omega
      obtain ⟨b, off, rfl, hb, hp⟩ := h.at' k hlt
      obtain ⟨b', off', e, _, hq⟩ := h.at' j hlt2
      simp only [Option.some.injEq, Addr.mk.injEq, and_true] at e
      obtain ⟨rfl, rfl⟩ := e
      have hlt' : (k : Int) < (n : Int) := by omega
      have hlt1' : (j : Int) < (n : Int) := by omega
      have hS : ∀ w' : World, Below wr.heap.size wr w' → w'.cell? ⟨b, off + k * 7, none⟩ = some (.string (ps k).nm) ∧ w'.cell? ⟨b, off + k * 7 + 1, none⟩ = some (.int .u8 (ps k).fn) ∧ w'.cell? ⟨b, off + k * 7 + 2, none⟩ = some (.string (ps k).attr) ∧ w'.cell? ⟨b, off + k * 7 + 3, none⟩ = some (.int .u64 (ps k).ver) ∧ w'.cell? ⟨b, off + k * 7 + 4, none⟩ = some (.int .u64 (ps k).n) ∧ w'.cell? ⟨b, off + k * 7 + 5, none⟩ = some (.int .i64 (ps k).hi) ∧ w'.cell? ⟨b, off + k * 7 + 6, none⟩ = some (.int .u64 (ps k).lo) ∧ w'.cell? ⟨b, off + j * 7, none⟩ = some (.string (ps j).nm) ∧ w'.cell? ⟨b, off + j * 7 + 1, none⟩ = some (.int .u8 (ps j).fn) ∧ w'.cell? ⟨b, off + j * 7 + 2, none⟩ = some (.string (ps j).attr) ∧ w'.cell? ⟨b, off + j * 7 + 3, none⟩ = some (.int .u64 (ps j).ver) ∧ w'.cell? ⟨b, off + j * 7 + 4, none⟩ = some (.int .u64 (ps j).n) ∧ w'.cell? ⟨b, off + j * 7 + 5, none⟩ = some (.int .i64 (ps j).hi) ∧ w'.cell? ⟨b, off + j * 7 + 6, none⟩ = some (.int .u64 (ps j).lo) := fun w' hb' =>
        let q := hp.below (bel.trans (hb'.mono bel.size)) hb
        let r := hq.below (bel.trans (hb'.mono bel.size)) hb
        ⟨q.c0, q.c1, q.c2, q.c3, q.c4, q.c5, q.c6, r.c0, r.c1, r.c2, r.c3, r.c4, r.c5, r.c6⟩
      have HS : Hid _ := hS
      clear hS
      by_cases hit : (ps k).item (ps j) = true
      · go_wp2
        go_region_held3 (fun w' => w'.cell? ⟨b, off + k * 7, none⟩ = some (.string (ps k).nm) ∧ w'.cell? ⟨b, off + k * 7 + 1, none⟩ = some (.int .u8 (ps k).fn) ∧ w'.cell? ⟨b, off + k * 7 + 2, none⟩ = some (.string (ps k).attr) ∧ w'.cell? ⟨b, off + k * 7 + 3, none⟩ = some (.int .u64 (ps k).ver) ∧ w'.cell? ⟨b, off + k * 7 + 4, none⟩ = some (.int .u64 (ps k).n) ∧ w'.cell? ⟨b, off + k * 7 + 5, none⟩ = some (.int .i64 (ps k).hi) ∧ w'.cell? ⟨b, off + k * 7 + 6, none⟩ = some (.int .u64 (ps k).lo) ∧ w'.cell? ⟨b, off + j * 7, none⟩ = some (.string (ps j).nm) ∧ w'.cell? ⟨b, off + j * 7 + 1, none⟩ = some (.int .u8 (ps j).fn) ∧ w'.cell? ⟨b, off + j * 7 + 2, none⟩ = some (.string (ps j).attr) ∧ w'.cell? ⟨b, off + j * 7 + 3, none⟩ = some (.int .u64 (ps j).ver) ∧ w'.cell? ⟨b, off + j * 7 + 4, none⟩ = some (.int .u64 (ps j).n) ∧ w'.cell? ⟨b, off + j * 7 + 5, none⟩ = some (.int .i64 (ps j).hi) ∧ w'.cell? ⟨b, off + j * 7 + 6, none⟩ = some (.int .u64 (ps j).lo)) (first | exact HS.out _ ((Below.refl _ _).drew) | exact HS.out _ (by assumption))
          (first | (go_at_call 42; refine (sameItem42 (ps k) (ps j) _).mono ?_; rintro e w2 ⟨rfl, hb2⟩; have hb3 : Below wr.heap.size wr w2 := (Below.refl _ _).drew.trans hb2; clear hb2))
        go_wp2
        go_ret
        exact says_false (fun hd => by rw [hd k j (by omega) hlt2] at hit; cases hit) (bel.trans ((by assumption : Below wr.heap.size wr _).mono bel.size))
      · have hit' : (ps k).item (ps j) = false := by simpa using hit
        clear hit
        go_wp2
        go_region_held3 (fun w' => w'.cell? ⟨b, off + k * 7, none⟩ = some (.string (ps k).nm) ∧ w'.cell? ⟨b, off + k * 7 + 1, none⟩ = some (.int .u8 (ps k).fn) ∧ w'.cell? ⟨b, off + k * 7 + 2, none⟩ = some (.string (ps k).attr) ∧ w'.cell? ⟨b, off + k * 7 + 3, none⟩ = some (.int .u64 (ps k).ver) ∧ w'.cell? ⟨b, off + k * 7 + 4, none⟩ = some (.int .u64 (ps k).n) ∧ w'.cell? ⟨b, off + k * 7 + 5, none⟩ = some (.int .i64 (ps k).hi) ∧ w'.cell? ⟨b, off + k * 7 + 6, none⟩ = some (.int .u64 (ps k).lo) ∧ w'.cell? ⟨b, off + j * 7, none⟩ = some (.string (ps j).nm) ∧ w'.cell? ⟨b, off + j * 7 + 1, none⟩ = some (.int .u8 (ps j).fn) ∧ w'.cell? ⟨b, off + j * 7 + 2, none⟩ = some (.string (ps j).attr) ∧ w'.cell? ⟨b, off + j * 7 + 3, none⟩ = some (.int .u64 (ps j).ver) ∧ w'.cell? ⟨b, off + j * 7 + 4, none⟩ = some (.int .u64 (ps j).n) ∧ w'.cell? ⟨b, off + j * 7 + 5, none⟩ = some (.int .i64 (ps j).hi) ∧ w'.cell? ⟨b, off + j * 7 + 6, none⟩ = some (.int .u64 (ps j).lo)) (first | exact HS.out _ ((Below.refl _ _).drew) | exact HS.out _ (by assumption))
          (first | (go_at_call 42; refine (sameItem42 (ps k) (ps j) _).mono ?_; rintro e w2 ⟨rfl, hb2⟩; have hb3 : Below wr.heap.size wr w2 := (Below.refl _ _).drew.trans hb2; clear hb2))
        go_wp2
        go_roundw
        case rel => exact ⟨j + 1, by omega, by omega, by go_num, fun j' h1 h2 => by (by_cases e : j' = j; (rw [e]; exact hit'); exact HB.out j' h1 (by omega)), bel.trans ((by assumption : Below wr.heap.size wr _).mono bel.size)⟩
        case measure => simp [intOf]; omega

/-- The count that countsAsMany finds for an item among the first k: the last one of that item, 0 where there is none. -/
def lastN (ps : Nat → Par) (q : Par) : Nat → Int
  | 0 => 0
  | k + 1 => if (ps k).item q = true then (ps k).n else lastN ps q k
def CAM (A B : Tal) : Prop := B.m ≤ A.m ∧ ∀ k, k < B.vn → (B.ps k).n ≤ lastN A.ps (B.ps k) A.vn
structure S2q (w : World) (c0 c1 : Array Value) (qb : Nat) (q : Par) (w' : World) : Prop where
  s : S2 w c0 c1 w'
  bq : Bx w' qb 78 #[.string q.nm, .int .u8 q.fn, .string q.attr, .int .u64 q.ver, .int .u64 q.n, .int .i64 q.hi, .int .u64 q.lo]
theorem S2q.below {w w' w'' : World} {c0 c1 : Array Value} {qb : Nat} {q : Par} (h : S2q w c0 c1 qb q w') (hb : Below w'.heap.size w' w'') : S2q w c0 c1 qb q w'' := ⟨h.s.below hb, h.bq.below hb h.bq.lt⟩
set_option maxRecDepth 10000 in
set_option maxHeartbeats 2000000 in
theorem cam37 (A B : Tal) (va ba va1 ba1 : Option Addr) (vc bc vc1 bc1 : Nat) (c0 c1 : Array Value) (w : World) (h : TalAt w A va vc ba bc c0) (h' : TalAt w B va1 vc1 ba1 bc1 c1) :
    Calls Try.prog 37 #[.agg c0, .agg c1] w (SaysB (CAM A B) w) := by
  have hl := h.pars.le
  have hl' := h'.pars.le
  have S0 := S2.start w c0 c1
  have f0 : c0[0]? = some (.int .u64 A.m) := by rw [h.eq]; rfl
  have g0 : c1[0]? = some (.int .u64 B.m) := by rw [h'.eq]; rfl
  have g1 : c1[1]? = some (.slice va1 B.vn vc1) := by rw [h'.eq]; rfl
  by_cases h1 : A.m < B.m
  · go_enter Try.func37, Try.ntmps37
    go_wp2
    go_ret
    exact says_false (fun h => absurd h.1 (by omega)) (below_box2 _ _ _)
  have H1 : Hid (B.m ≤ A.m) := Int.not_lt.1 h1
  go_enter Try.func37, Try.ntmps37
  go_wp2
  clear h1
  go_loopw [18] (fun i wr => ∃ k : Nat, k ≤ B.vn ∧ i = .int .i64 k ∧ (∀ j, j < k → (B.ps j).n ≤ lastN A.ps (B.ps j) A.vn) ∧ S2 w c0 c1 wr) (fun i _ => B.vn - (intOf i).toNat)
  case atStart => exact ⟨0, Nat.zero_le _, rfl, fun j hj => by omega, S0⟩
  case round =>
    obtain ⟨k, hk, rfl, hall, S⟩ := hrel
    have HA : Hid (∀ j, j < k → (B.ps j).n ≤ lastN A.ps (B.ps j) A.vn) := hall
    clear hall
    by_cases hlt : k < B.vn
    rotate_left
    · go_wp2
      go_ret
      exact says_true ⟨H1.out, fun j hj => HA.out j (by omega)⟩ S.bel
    obtain ⟨b1, off1, rfl, hb1, hp1⟩ := h'.pars.at' k hlt
    have hlt' : (k : Int) < (B.vn : Int) := by omega
    obtain ⟨wo, rfl⟩ : ∃ wo : World, wo = wr := ⟨_, rfl⟩
    have hsz : w.heap.size + 1 < wo.heap.size := S.b1.lt
    have x1 : wo.cell? ⟨w.heap.size, 1, none⟩ = some (.slice va A.vn vc) := (cell_of_row _ _ 1 _ _ _ S.b0).trans (by rw [h.eq]; rfl)
    have q0 := (hp1.below S.bel hb1).c0
    have q1 := (hp1.below S.bel hb1).c1
    have q2 := (hp1.below S.bel hb1).c2
    have q3 := (hp1.below S.bel hb1).c3
    have q4 := (hp1.below S.bel hb1).c4
    have q5 := (hp1.below S.bel hb1).c5
    have q6 := (hp1.below S.bel hb1).c6
    have x1' : ∀ X, (wo.alloc X).cell? ⟨w.heap.size, 1, none⟩ = some (.slice va A.vn vc) := fun X => (cell_of_below (below_box wo X) (by omega)).trans x1
    go_wp2
    have SQ : S2q w c0 c1 wo.heap.size (B.ps k) (wo.alloc (.cells #[.string (B.ps k).nm, .int .u8 (B.ps k).fn, .string (B.ps k).attr, .int .u64 (B.ps k).ver, .int .u64 (B.ps k).n, .int .i64 (B.ps k).hi, .int .u64 (B.ps k).lo] 78)) := ⟨S.below (below_box _ _), Bx.new _ _ _⟩
    clear x1 x1' q0 q1 q2 q3 q4 q5 q6
    go_loopw [7, 25] (fun n i wr => ∃ j : Nat, j ≤ A.vn ∧ i = .int .i64 j ∧ n = .int .u64 (lastN A.ps (B.ps k) j) ∧ S2q w c0 c1 wo.heap.size (B.ps k) wr) (fun _ i _ => A.vn - (intOf i).toNat)
    case atStart => exact ⟨0, Nat.zero_le _, rfl, rfl, SQ⟩
    case round =>
      clear SQ
      obtain ⟨j, hj, rfl, rfl, SQ⟩ := hrel
      by_cases hlt2 : j < A.vn
      · obtain ⟨b, off, rfl, hb, hp⟩ := h.pars.at' j hlt2
        have hlt2' : (j : Int) < (A.vn : Int) := by omega
        have p0 := (hp.below SQ.s.bel hb).c0
        have p1 := (hp.below SQ.s.bel hb).c1
        have p2 := (hp.below SQ.s.bel hb).c2
        have p3 := (hp.below SQ.s.bel hb).c3
        have p4 := (hp.below SQ.s.bel hb).c4
        have p5 := (hp.below SQ.s.bel hb).c5
        have p6 := (hp.below SQ.s.bel hb).c6
        have hbq := SQ.bq.lt
        have r0 : ∀ X, (wr.alloc X).cell? ⟨wo.heap.size, 0, none⟩ = some (.string (B.ps k).nm) := fun X => (cell_of_below (below_box wr X) hbq).trans (cell_of_row _ _ 0 _ _ _ SQ.bq)
        have r1 : ∀ X, (wr.alloc X).cell? ⟨wo.heap.size, 1, none⟩ = some (.int .u8 (B.ps k).fn) := fun X => (cell_of_below (below_box wr X) hbq).trans (cell_of_row _ _ 1 _ _ _ SQ.bq)
        have r2 : ∀ X, (wr.alloc X).cell? ⟨wo.heap.size, 2, none⟩ = some (.string (B.ps k).attr) := fun X => (cell_of_below (below_box wr X) hbq).trans (cell_of_row _ _ 2 _ _ _ SQ.bq)
        have r3 : ∀ X, (wr.alloc X).cell? ⟨wo.heap.size, 3, none⟩ = some (.int .u64 (B.ps k).ver) := fun X => (cell_of_below (below_box wr X) hbq).trans (cell_of_row _ _ 3 _ _ _ SQ.bq)
        have hq := fun w => eql76 (A.ps j) (B.ps k) w
        by_cases hit : (A.ps j).item (B.ps k) = true
        · have HL : Hid (lastN A.ps (B.ps k) (j + 1) = (A.ps j).n) := if_pos hit
          go_wp2
          go_roundw
          case rel => exact ⟨j + 1, by omega, by go_num, by rw [HL.out], SQ.below (below_box _ _)⟩
          case measure => simp [intOf]; omega
        · have HL : Hid (lastN A.ps (B.ps k) (j + 1) = lastN A.ps (B.ps k) j) := if_neg hit
          have hit' : (A.ps j).item (B.ps k) = false := by simpa using hit
          clear hit
          go_wp2
          go_roundw
          case rel => exact ⟨j + 1, by omega, by go_num, by rw [HL.out], SQ.below (below_box _ _)⟩
          case measure => simp [intOf]; omega
      · obtain rfl : j = A.vn := by omega
        have r4 : wr.cell? ⟨wo.heap.size, 4, none⟩ = some (.int .u64 (B.ps k).n) := cell_of_row _ _ 4 _ _ _ SQ.bq
        by_cases hn : lastN A.ps (B.ps k) A.vn < (B.ps k).n
        · go_wp2
          go_ret
          exact says_false (fun hc => absurd (hc.2 k hlt) (by omega)) SQ.s.bel
        · have HN : Hid ((B.ps k).n ≤ lastN A.ps (B.ps k) A.vn) := Int.not_lt.1 hn
          go_wp2
          go_roundw
          case rel => exact ⟨k + 1, by omega, by go_num, all_succ HA.out HN.out, SQ.s⟩
          case measure => simp [intOf]; omega

theorem cam21 {A B : Tal} {c0 c1 : Array Value} {w : World} (h : TalIn w A c0) (h' : TalIn w B c1) : Calls Try.prog 21 #[.agg c0, .agg c1] w (SaysB (CAM A B) w) := by
  have S0 := S2.start w c0 c1
  have i0 := info46 h.size
  have i1 := info46 h'.size
  obtain ⟨va, vc, ba, bc, ht⟩ := h.below S0.bel
  obtain ⟨va1, vc1, ba1, bc1, ht'⟩ := h'.below S0.bel
  have HC := cam37 A B va ba va1 ba1 vc bc vc1 bc1 c0 c1 _ ht ht'
  clear ht ht' h h'
  go_enter Try.func21, Try.ntmps21
  go_wp2_with (first
    | (refine wpList_load_row rfl 46 (.tmp 2) rfl w.heap.size rfl 46 c0 (0, 0) _ S0.b0 Try.underlying46 rfl i0 ?_)
    | (refine wpList_load_row rfl 46 (.tmp 3) rfl (w.heap.size + 1) rfl 46 c1 (0, 0) _ S0.b1 Try.underlying46 rfl i1 ?_)
    | (go_at_call 37; go_loud (refine HC.mono ?_; rintro e w1 ⟨⟨b, rfl, hiff⟩, hb1⟩; have HI : Hid (b = true ↔ CAM A B) := hiff; clear hiff)))
  go_ret
  exact ⟨⟨_, rfl, HI.out⟩, (S0.below hb1).bel⟩
theorem lastN_self (ps : Nat → Par) (i : Nat) : ∀ n, i < n → (∀ j, i < j → j < n → (ps i).item (ps j) = false) → lastN ps (ps i) n = (ps i).n
  | 0, h, _ => by omega
  | n + 1, h, hd => by
    unfold lastN
    by_cases e : i = n
    · subst e
      rw [if_pos (by simp [Par.item])]
    · have hs : (ps n).item (ps i) = false := by
        cases hx : (ps n).item (ps i) with
        | false => rfl
        | true =>
          have := (Par.item_iff _ _).1 hx
          have hy := (Par.item_iff (ps i) (ps n)).2 ⟨this.1.symm, this.2.1.symm, this.2.2.1.symm, this.2.2.2.symm⟩
          rw [hd n (by omega) (by omega)] at hy
          cases hy
      rw [hs, if_neg (by decide)]
      exact lastN_self ps i n (by omega) (fun j h1 h2 => hd j h1 (by omega))
theorem CAM.refl {A : Tal} (h : Distinct A.ps A.vn) : CAM A A :=
  ⟨Int.le_refl _, fun k hk => by rw [lastN_self A.ps k A.vn hk (fun j h1 h2 => h k j h1 h2)]; exact Int.le_refl _⟩

end Go.Proofs.Qxb6601324a
