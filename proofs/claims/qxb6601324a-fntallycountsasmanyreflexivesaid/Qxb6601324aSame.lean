/-
  (tally).shaped, (tally).same: what they answer.
-/
import Derived.Test.Qxb6601324aBoxes
import Derived.Deep.QuietTactic
import Derived.BigQuiet
namespace Go.Proofs.Qxb6601324a
open Go.RowKit
set_option linter.unusedSimpArgs false
set_option linter.unusedVariables false
attribute [local go_sem] eq44

theorem neq76 (p q : Par) (w : World) : (binOp .neq 76 (.agg #[.string p.nm, .int .u8 p.fn, .string p.attr, .int .u64 p.ver]) (.agg #[.string q.nm, .int .u8 q.fn, .string q.attr, .int .u64 q.ver])).run Try.prog w = .ok (.bool (!(p.item q))) w := by
  rw [run_neq_struct, eq76]; rfl
theorem neq78 (p q : Par) (w : World) : (binOp .neq 78 (.agg #[.string p.nm, .int .u8 p.fn, .string p.attr, .int .u64 p.ver, .int .u64 p.n, .int .i64 p.hi, .int .u64 p.lo]) (.agg #[.string q.nm, .int .u8 q.fn, .string q.attr, .int .u64 q.ver, .int .u64 q.n, .int .i64 q.hi, .int .u64 q.lo])).run Try.prog w = .ok (.bool (!(p.eqb q))) w := by
  rw [run_neq_struct, eq78]; rfl
theorem neq81 (p q : Bnd) (w : World) : (binOp .neq 81 (.agg #[.string p.attr, .int .u64 p.n, .int .i64 p.lh, .int .u64 p.ll, .int .i64 p.hh, .int .u64 p.hl]) (.agg #[.string q.attr, .int .u64 q.n, .int .i64 q.lh, .int .u64 q.ll, .int .i64 q.hh, .int .u64 q.hl])).run Try.prog w = .ok (.bool (!(p.eqb q))) w := by
  rw [run_neq_struct, eq81]; rfl

/-- What a bool says: it is true just where p holds. -/
def SaysB (p : Prop) (w : World) (e : Ending) (w' : World) : Prop := (∃ b : Bool, e = .returned (.bool b) ∧ (b = true ↔ p)) ∧ Below w.heap.size w w'
theorem says_true {p : Prop} {w w' : World} (hp : p) (h : Below w.heap.size w w') : SaysB p w (.returned (.bool true)) w' := ⟨⟨true, rfl, by simp [hp]⟩, h⟩
theorem says_false {p : Prop} {w w' : World} (hp : ¬ p) (h : Below w.heap.size w w') : SaysB p w (.returned (.bool false)) w' := ⟨⟨false, rfl, by simp [hp]⟩, h⟩
theorem below_drewN {B : Nat} {a w : World} (h : Below B a w) : ∀ n, Below B a (w.drewN n)
  | 0 => h
  | n + 1 => (below_drewN h n).drew
theorem Bx.drewN {w : World} {b : Nat} {t : TypeId} {cs : Array Value} (h : Bx w b t cs) : ∀ n, Bx (w.drewN n) b t cs
  | 0 => h
  | n + 1 => Bx.drewN (w := w) h n

theorem all_succ {P : Nat → Prop} {k : Nat} (h : ∀ j, j < k → P j) (hk : P k) : ∀ j, j < k + 1 → P j := fun j hj => by
  by_cases e : j = k
  · rw [e]; exact hk
  · exact h j (by omega)
theorem SaysB.yes {p : Prop} {w w' : World} {e : Ending} (hp : p) (h : SaysB p w e w') : e = .returned (.bool true) ∧ Below w.heap.size w w' := by
  obtain ⟨⟨b, rfl, hb⟩, h⟩ := h
  exact ⟨by rw [hb.2 hp], h⟩
theorem SaysB.no {p : Prop} {w w' : World} {e : Ending} (hp : ¬ p) (h : SaysB p w e w') : e = .returned (.bool false) ∧ Below w.heap.size w w' := by
  obtain ⟨⟨b, rfl, hb⟩, h⟩ := h
  cases b with
  | false => exact ⟨rfl, h⟩
  | true => exact absurd (hb.1 rfl) hp

/-- Two tallies in two boxes, new since w. -/
structure S2 (w : World) (c0 c1 : Array Value) (w' : World) : Prop where
  bel : Below w.heap.size w w'
  b0 : Bx w' w.heap.size 46 c0
  b1 : Bx w' (w.heap.size + 1) 46 c1
theorem S2.start (w : World) (c0 c1 : Array Value) : S2 w c0 c1 ((w.alloc (.cells c0 46)).alloc (.cells c1 46)) where
  bel := below_box2 _ _ _
  b0 := (Bx.new _ _ _).alloc _
  b1 := by have h := (Bx.new (w.alloc (.cells c0 46)) 46 c1); simpa using h
theorem S2.drewN {w w' : World} {c0 c1 : Array Value} (h : S2 w c0 c1 w') (n : Nat) : S2 w c0 c1 (w'.drewN n) := ⟨below_drewN h.bel n, h.b0.drewN n, h.b1.drewN n⟩
theorem S2.below {w w' w'' : World} {c0 c1 : Array Value} (h : S2 w c0 c1 w') (hb : Below w'.heap.size w' w'') : S2 w c0 c1 w'' :=
  ⟨h.bel.trans (hb.mono h.bel.size), h.b0.below hb h.b0.lt, h.b1.below hb h.b1.lt⟩
/-- The same number of members, the same topics, the same items. -/
def Shaped (A B : Tal) : Prop := A.m = B.m ∧ A.T = B.T ∧ A.vn = B.vn ∧ ∀ k, k < A.vn → (A.ps k).item (B.ps k) = true

set_option maxRecDepth 10000 in
set_option maxHeartbeats 1000000 in
theorem shaped41 (A B : Tal) (va ba va1 ba1 : Option Addr) (vc bc vc1 bc1 : Nat) (c0 c1 : Array Value) (w : World) (h : TalAt w A va vc ba bc c0) (h' : TalAt w B va1 vc1 ba1 bc1 c1) :
    Calls Try.prog 41 #[.agg c0, .agg c1] w (SaysB (Shaped A B) w) := by
  have hl := h.pars.le
  have f0 : c0[0]? = some (.int .u64 A.m) := by rw [h.eq]; rfl
  have f1 : c0[1]? = some (.slice va A.vn vc) := by rw [h.eq]; rfl
  have f3 : c0[3]? = some (.int .u64 A.T.t0) := by rw [h.eq]; rfl
  have f4 : c0[4]? = some (.int .u64 A.T.t1) := by rw [h.eq]; rfl
  have f5 : c0[5]? = some (.int .u64 A.T.t2) := by rw [h.eq]; rfl
  have f6 : c0[6]? = some (.int .u64 A.T.t3) := by rw [h.eq]; rfl
  have f7 : c0[7]? = some (.int .u64 A.T.t4) := by rw [h.eq]; rfl
  have f8 : c0[8]? = some (.int .u64 A.T.t5) := by rw [h.eq]; rfl
  have f9 : c0[9]? = some (.int .u64 A.T.t6) := by rw [h.eq]; rfl
  have f10 : c0[10]? = some (.int .u64 A.T.t7) := by rw [h.eq]; rfl
  have f11 : c0[11]? = some (.int .u64 A.T.t8) := by rw [h.eq]; rfl
  have f12 : c0[12]? = some (.int .u64 A.T.t9) := by rw [h.eq]; rfl
  have f13 : c0[13]? = some (.int .u64 A.T.t10) := by rw [h.eq]; rfl
  have f14 : c0[14]? = some (.int .u64 A.T.t11) := by rw [h.eq]; rfl
  have f15 : c0[15]? = some (.int .u64 A.T.t12) := by rw [h.eq]; rfl
  have f16 : c0[16]? = some (.int .u64 A.T.t13) := by rw [h.eq]; rfl
  have f17 : c0[17]? = some (.int .u64 A.T.t14) := by rw [h.eq]; rfl
  have f18 : c0[18]? = some (.int .u64 A.T.t15) := by rw [h.eq]; rfl
  have g0 : c1[0]? = some (.int .u64 B.m) := by rw [h'.eq]; rfl
  have g1 : c1[1]? = some (.slice va1 B.vn vc1) := by rw [h'.eq]; rfl
  have g3 : c1[3]? = some (.int .u64 B.T.t0) := by rw [h'.eq]; rfl
  have g4 : c1[4]? = some (.int .u64 B.T.t1) := by rw [h'.eq]; rfl
  have g5 : c1[5]? = some (.int .u64 B.T.t2) := by rw [h'.eq]; rfl
  have g6 : c1[6]? = some (.int .u64 B.T.t3) := by rw [h'.eq]; rfl
  have g7 : c1[7]? = some (.int .u64 B.T.t4) := by rw [h'.eq]; rfl
  have g8 : c1[8]? = some (.int .u64 B.T.t5) := by rw [h'.eq]; rfl
  have g9 : c1[9]? = some (.int .u64 B.T.t6) := by rw [h'.eq]; rfl
  have g10 : c1[10]? = some (.int .u64 B.T.t7) := by rw [h'.eq]; rfl
  have g11 : c1[11]? = some (.int .u64 B.T.t8) := by rw [h'.eq]; rfl
  have g12 : c1[12]? = some (.int .u64 B.T.t9) := by rw [h'.eq]; rfl
  have g13 : c1[13]? = some (.int .u64 B.T.t10) := by rw [h'.eq]; rfl
  have g14 : c1[14]? = some (.int .u64 B.T.t11) := by rw [h'.eq]; rfl
  have g15 : c1[15]? = some (.int .u64 B.T.t12) := by rw [h'.eq]; rfl
  have g16 : c1[16]? = some (.int .u64 B.T.t13) := by rw [h'.eq]; rfl
  have g17 : c1[17]? = some (.int .u64 B.T.t14) := by rw [h'.eq]; rfl
  have g18 : c1[18]? = some (.int .u64 B.T.t15) := by rw [h'.eq]; rfl
  have S0 := S2.start w c0 c1
  by_cases h1 : A.m = B.m
  rotate_left
  · have h1' : (A.m == B.m) = false := by simp [h1]
    go_enter Try.func41, Try.ntmps41
    go_wp2
    go_ret
    exact says_false (fun h => h1 h.1) (below_box2 _ _ _)
  by_cases h2 : A.T.eqb B.T = true
  rotate_left
  · have h2' : A.T.eqb B.T = false := by simpa using h2
    clear h2
    have h1' : (A.m == B.m) = true := by simp [h1]
    have H1 : Hid (A.m = B.m) := h1
    clear h1
    go_enter Try.func41, Try.ntmps41
    go_wp2
    go_ret
    exact says_false (fun h => by rw [(Tops.eqb_iff A.T B.T).2 h.2.1] at h2'; cases h2') (below_box2 _ _ _)
  have hT : Hid (A.T = B.T) := (Tops.eqb_iff A.T B.T).1 h2
  have H1 : Hid (A.m = B.m) := h1
  have h1' : (A.m == B.m) = true := by simp [h1]
  clear h1
  by_cases h3 : A.vn = B.vn
  rotate_left
  · have h3' : ((A.vn : Int) == (B.vn : Int)) = false := by simp; omega
    go_enter Try.func41, Try.ntmps41
    go_wp2
    go_ret
    exact says_false (fun h => h3 h.2.2.1) (below_box2 _ _ _)
  have H3 : Hid (A.vn = B.vn) := h3
  have h3' : ((A.vn : Int) == (B.vn : Int)) = true := by simp; omega
  have h3l : A.vn ≤ B.vn := by omega
  clear h3
  go_enter Try.func41, Try.ntmps41
  go_wp2
  go_loopw [30] (fun i wr => ∃ k : Nat, k ≤ A.vn ∧ i = .int .i64 k ∧ (∀ j, j < k → (A.ps j).item (B.ps j) = true) ∧ S2 w c0 c1 wr) (fun i _ => A.vn - (intOf i).toNat)
  case atStart => exact ⟨0, Nat.zero_le _, rfl, fun j hj => by omega, S0⟩
  case round =>
    obtain ⟨k, hk, rfl, hall, S⟩ := hrel
    have HA : Hid (∀ j, j < k → (A.ps j).item (B.ps j) = true) := hall
    clear hall
    by_cases hlt : k < A.vn
    · obtain ⟨b, off, hva, hb, hp⟩ := h.pars.at' k hlt
      obtain ⟨b1, off1, hva1, hb1, hp1⟩ := h'.pars.at' k (by omega)
      have hlt' : (k : Int) < (A.vn : Int) := by omega
      have hlt1' : (k : Int) < (B.vn : Int) := by omega
      have x1 : wr.cell? ⟨w.heap.size, 1, none⟩ = some (.slice (some ⟨b, off, none⟩) A.vn vc) := (cell_of_row _ _ 1 _ _ _ S.b0).trans (by rw [h.eq, hva]; rfl)
      have y1 : wr.cell? ⟨w.heap.size + 1, 1, none⟩ = some (.slice (some ⟨b1, off1, none⟩) B.vn vc1) := (cell_of_row _ _ 1 _ _ _ S.b1).trans (by rw [h'.eq, hva1]; rfl)
      have p0 := (hp.below S.bel hb).c0
      have p1 := (hp.below S.bel hb).c1
      have p2 := (hp.below S.bel hb).c2
      have p3 := (hp.below S.bel hb).c3
      have q0 := (hp1.below S.bel hb1).c0
      have q1 := (hp1.below S.bel hb1).c1
      have q2 := (hp1.below S.bel hb1).c2
      have q3 := (hp1.below S.bel hb1).c3
      clear hva hva1
      have hq := fun w => neq76 (A.ps k) (B.ps k) w
      by_cases hit : (A.ps k).item (B.ps k) = true
      · go_wp2
        go_quiet (fail)
        go_wp2
        go_roundw
        case rel => exact ⟨k + 1, by omega, by go_num, all_succ HA.out hit, S.drewN _⟩
        case measure => simp [intOf]; omega
      · have hit' : (A.ps k).item (B.ps k) = false := by simpa using hit
        have HI : Hid (¬ (A.ps k).item (B.ps k) = true) := hit
        clear hit
        go_wp2
        go_quiet (fail)
        go_wp2
        go_ret
        exact says_false (fun h => HI.out (h.2.2.2 k hlt)) (S.drewN _).bel
    · go_wp2
      go_ret
      exact says_true ⟨H1.out, hT.out, H3.out, fun j hj => HA.out j (by omega)⟩ S.bel

/-- The same in all. -/
def SameT (A B : Tal) : Prop := A.m = B.m ∧ A.T = B.T ∧ A.vn = B.vn ∧ (∀ k, k < A.vn → A.ps k = B.ps k) ∧ A.cut = B.cut ∧ A.bn = B.bn ∧ ∀ k, k < A.bn → A.bs k = B.bs k
theorem SameT.shaped {A B : Tal} (h : SameT A B) : Shaped A B := ⟨h.1, h.2.1, h.2.2.1, fun k hk => by rw [h.2.2.2.1 k hk]; simp [Par.item]⟩
set_option maxRecDepth 10000 in
set_option maxHeartbeats 2000000 in
theorem same36 (A B : Tal) (va ba va1 ba1 : Option Addr) (vc bc vc1 bc1 : Nat) (c0 c1 : Array Value) (w : World) (h : TalAt w A va vc ba bc c0) (h' : TalAt w B va1 vc1 ba1 bc1 c1) :
    Calls Try.prog 36 #[.agg c0, .agg c1] w (SaysB (SameT A B) w) := by
  have hl := h.pars.le
  have hbl := h.bnds.le
  have S0 := S2.start w c0 c1
  have i0 := info46 (TalIn.size ⟨_, _, _, _, h⟩)
  have i1 := info46 (TalIn.size ⟨_, _, _, _, h'⟩)
  have ht : TalAt ((w.alloc (.cells c0 46)).alloc (.cells c1 46)) A va vc ba bc c0 := ⟨h.eq, h.pars.below S0.bel, h.bnds.below S0.bel⟩
  have ht' : TalAt ((w.alloc (.cells c0 46)).alloc (.cells c1 46)) B va1 vc1 ba1 bc1 c1 := ⟨h'.eq, h'.pars.below S0.bel, h'.bnds.below S0.bel⟩
  have HC := shaped41 A B va ba va1 ba1 vc bc vc1 bc1 c0 c1 _ ht ht'
  clear ht ht'
  by_cases hsh : Shaped A B
  rotate_left
  · have HC' := HC.mono (fun e w' => SaysB.no hsh)
    clear HC
    go_enter Try.func36, Try.ntmps36
    go_wp2_with (first
      | (refine wpList_load_row rfl 46 (.tmp 2) rfl w.heap.size rfl 46 c0 (0, 0) _ S0.b0 Try.underlying46 rfl i0 ?_)
      | (refine wpList_load_row rfl 46 (.tmp 3) rfl (w.heap.size + 1) rfl 46 c1 (0, 0) _ S0.b1 Try.underlying46 rfl i1 ?_)
      | (go_at_call 41; go_loud (refine HC'.mono ?_; rintro e w1 ⟨rfl, hb1⟩)))
    go_ret
    exact says_false (fun hs => hsh hs.shaped) (S0.below hb1).bel
  have HC' := HC.mono (fun e w' => SaysB.yes hsh)
  clear HC
  obtain ⟨s1, s2, s3, s4⟩ := hsh
  have H1 : Hid (A.m = B.m ∧ A.T = B.T ∧ A.vn = B.vn) := ⟨s1, s2, s3⟩
  have h3l : A.vn ≤ B.vn := by omega
  clear s1 s2 s3 s4
  go_enter Try.func36, Try.ntmps36
  go_wp2_with (first
    | (refine wpList_load_row rfl 46 (.tmp 2) rfl w.heap.size rfl 46 c0 (0, 0) _ S0.b0 Try.underlying46 rfl i0 ?_)
    | (refine wpList_load_row rfl 46 (.tmp 3) rfl (w.heap.size + 1) rfl 46 c1 (0, 0) _ S0.b1 Try.underlying46 rfl i1 ?_)
    | (go_at_call 41; go_loud (refine HC'.mono ?_; rintro e w1 ⟨rfl, hb1⟩; have S1 := S0.below hb1; have z1 : w1.cell? ⟨w.heap.size, 1, none⟩ = some (.slice va A.vn vc) := (cell_of_row _ _ 1 _ _ _ S1.b0).trans (by rw [h.eq]; rfl))))
  clear z1
  go_loopw [14] (fun i wr => ∃ k : Nat, k ≤ A.vn ∧ i = .int .i64 k ∧ (∀ j, j < k → A.ps j = B.ps j) ∧ S2 w c0 c1 wr) (fun i _ => A.vn - (intOf i).toNat)
  case atStart => exact ⟨0, Nat.zero_le _, rfl, fun j hj => by omega, S1⟩
  case round =>
    obtain ⟨k, hk, rfl, hall, S⟩ := hrel
    have HA : Hid (∀ j, j < k → A.ps j = B.ps j) := hall
    clear hall
    by_cases hlt : k < A.vn
    · obtain ⟨b, off, hva, hb, hp⟩ := h.pars.at' k hlt
      obtain ⟨b1, off1, hva1, hb1, hp1⟩ := h'.pars.at' k (by omega)
      have hlt' : (k : Int) < (A.vn : Int) := by omega
      have hlt1' : (k : Int) < (B.vn : Int) := by omega
      have x1 : wr.cell? ⟨w.heap.size, 1, none⟩ = some (.slice (some ⟨b, off, none⟩) A.vn vc) := (cell_of_row _ _ 1 _ _ _ S.b0).trans (by rw [h.eq, hva]; rfl)
      have y1 : wr.cell? ⟨w.heap.size + 1, 1, none⟩ = some (.slice (some ⟨b1, off1, none⟩) B.vn vc1) := (cell_of_row _ _ 1 _ _ _ S.b1).trans (by rw [h'.eq, hva1]; rfl)
      have p0 := (hp.below S.bel hb).c0
      have p1 := (hp.below S.bel hb).c1
      have p2 := (hp.below S.bel hb).c2
      have p3 := (hp.below S.bel hb).c3
      have p4 := (hp.below S.bel hb).c4
      have p5 := (hp.below S.bel hb).c5
      have p6 := (hp.below S.bel hb).c6
      have q0 := (hp1.below S.bel hb1).c0
      have q1 := (hp1.below S.bel hb1).c1
      have q2 := (hp1.below S.bel hb1).c2
      have q3 := (hp1.below S.bel hb1).c3
      have q4 := (hp1.below S.bel hb1).c4
      have q5 := (hp1.below S.bel hb1).c5
      have q6 := (hp1.below S.bel hb1).c6
      clear hva hva1
      have hq := fun w => neq78 (A.ps k) (B.ps k) w
      by_cases hit : (A.ps k).eqb (B.ps k) = true
      · go_wp2
        go_quiet (fail)
        go_wp2
        go_roundw
        case rel => exact ⟨k + 1, by omega, by go_num, all_succ HA.out ((Par.eqb_iff _ _).1 hit), S.drewN _⟩
        case measure => simp [intOf]; omega
      · have hit' : (A.ps k).eqb (B.ps k) = false := by simpa using hit
        have HI : Hid (¬ (A.ps k).eqb (B.ps k) = true) := hit
        clear hit
        go_wp2
        go_quiet (fail)
        go_wp2
        go_ret
        exact says_false (fun h => HI.out ((Par.eqb_iff _ _).2 (h.2.2.2.1 k hlt))) (S.drewN _).bel
    · have HV : Hid (∀ j, j < A.vn → A.ps j = B.ps j) := fun j hj => HA.out j (by omega)
      clear HA
      obtain ⟨wo, rfl⟩ : ∃ wo : World, wo = wr := ⟨_, rfl⟩
      have x2 : wo.cell? ⟨w.heap.size, 2, none⟩ = some (.slice ba A.bn bc) := (cell_of_row _ _ 2 _ _ _ S.b0).trans (by rw [h.eq]; rfl)
      have x19 : wo.cell? ⟨w.heap.size, 19, none⟩ = some (.bool A.cut) := (cell_of_row _ _ 19 _ _ _ S.b0).trans (by rw [h.eq]; rfl)
      have y2 : wo.cell? ⟨w.heap.size + 1, 2, none⟩ = some (.slice ba1 B.bn bc1) := (cell_of_row _ _ 2 _ _ _ S.b1).trans (by rw [h'.eq]; rfl)
      have y19 : wo.cell? ⟨w.heap.size + 1, 19, none⟩ = some (.bool B.cut) := (cell_of_row _ _ 19 _ _ _ S.b1).trans (by rw [h'.eq]; rfl)
      by_cases hc : A.cut = B.cut
      rotate_left
      · have hc' : (A.cut == B.cut) = false := by simpa using hc
        have HC : Hid (¬ A.cut = B.cut) := hc
        clear hc
        go_wp2
        go_ret
        exact says_false (fun h => HC.out h.2.2.2.2.1) S.bel
      have hc' : (A.cut == B.cut) = true := by simpa using hc
      have HC : Hid (A.cut = B.cut) := hc
      clear hc
      by_cases hn : A.bn = B.bn
      rotate_left
      · have hn' : ((A.bn : Int) == (B.bn : Int)) = false := by simp; omega
        go_wp2
        go_ret
        exact says_false (fun h => hn h.2.2.2.2.2.1) S.bel
      have hn' : ((A.bn : Int) == (B.bn : Int)) = true := by simp; omega
      have hbn : A.bn ≤ B.bn := by omega
      have HN : Hid (A.bn = B.bn) := hn
      clear hn
      go_wp2
      clear x2 x19 y2 y19
      go_loopw [46] (fun i wr => ∃ k : Nat, k ≤ A.bn ∧ i = .int .i64 k ∧ (∀ j, j < k → A.bs j = B.bs j) ∧ S2 w c0 c1 wr) (fun i _ => A.bn - (intOf i).toNat)
      case atStart => exact ⟨0, Nat.zero_le _, rfl, fun j hj => by omega, S⟩
      case round =>
        clear S
        obtain ⟨k2, hk2, rfl, hall, S⟩ := hrel
        have HA : Hid (∀ j, j < k2 → A.bs j = B.bs j) := hall
        clear hall
        by_cases hlt2 : k2 < A.bn
        · obtain ⟨b, off, hva, hb, hp⟩ := h.bnds.at' k2 hlt2
          obtain ⟨b1, off1, hva1, hb1, hp1⟩ := h'.bnds.at' k2 (by omega)
          have hlt' : (k2 : Int) < (A.bn : Int) := by omega
          have hlt1' : (k2 : Int) < (B.bn : Int) := by omega
          have x2 : wr.cell? ⟨w.heap.size, 2, none⟩ = some (.slice (some ⟨b, off, none⟩) A.bn bc) := (cell_of_row _ _ 2 _ _ _ S.b0).trans (by rw [h.eq, hva]; rfl)
          have y2 : wr.cell? ⟨w.heap.size + 1, 2, none⟩ = some (.slice (some ⟨b1, off1, none⟩) B.bn bc1) := (cell_of_row _ _ 2 _ _ _ S.b1).trans (by rw [h'.eq, hva1]; rfl)
          have p0 := (hp.below S.bel hb).c0
          have p1 := (hp.below S.bel hb).c1
          have p2 := (hp.below S.bel hb).c2
          have p3 := (hp.below S.bel hb).c3
          have p4 := (hp.below S.bel hb).c4
          have p5 := (hp.below S.bel hb).c5
          have q0 := (hp1.below S.bel hb1).c0
          have q1 := (hp1.below S.bel hb1).c1
          have q2 := (hp1.below S.bel hb1).c2
          have q3 := (hp1.below S.bel hb1).c3
          have q4 := (hp1.below S.bel hb1).c4
          have q5 := (hp1.below S.bel hb1).c5
          clear hva hva1
          have hq := fun w => neq81 (A.bs k2) (B.bs k2) w
          by_cases hit : (A.bs k2).eqb (B.bs k2) = true
          · go_wp2
            go_quiet (fail)
            go_wp2
            go_roundw
            case rel => exact ⟨k2 + 1, by omega, by go_num, all_succ HA.out ((Bnd.eqb_iff _ _).1 hit), S.drewN _⟩
            case measure => simp [intOf]; omega
          · have hit' : (A.bs k2).eqb (B.bs k2) = false := by simpa using hit
            have HI : Hid (¬ (A.bs k2).eqb (B.bs k2) = true) := hit
            clear hit
            go_wp2
            go_quiet (fail)
            go_wp2
            go_ret
            exact says_false (fun h => HI.out ((Bnd.eqb_iff _ _).2 (h.2.2.2.2.2.2 k2 hlt2))) (S.drewN _).bel
        · go_wp2
          go_ret
          exact says_true ⟨H1.out.1, H1.out.2.1, H1.out.2.2, HV.out, HC.out, HN.out, fun j hj => HA.out j (by omega)⟩ S.bel

end Go.Proofs.Qxb6601324a
