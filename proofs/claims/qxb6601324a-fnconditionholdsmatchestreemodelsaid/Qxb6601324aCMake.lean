/-
  makeCondition: the terms copied into new memory.
-/
import Derived.Test.Qxb6601324aCBase
import Derived.Laws.CopyOwn
namespace Go.Proofs.Qxb6601324a
open Go.RowKit
set_option linter.unusedSimpArgs false
set_option linter.unusedVariables false

theorem mk28 (o : Int) (s : ByteArray) (hi lo : Int) (w : World) : Calls Try.prog 28 #[.int .u8 o, .string s, .int .i64 hi, .int .u64 lo] w fun e w' => e = .returned (.agg #[.int .u8 o, .string s, .int .i64 hi, .int .u64 lo]) ∧ w.alloc (.cells #[.int .u8 o, .string s, .int .i64 hi, .int .u64 lo] 61) = w' := by
  go_enter Try.func28, Try.ntmps28
  go_wp2
  exact bodyPost_ret (v := .agg #[.int .u8 o, .string s, .int .i64 hi, .int .u64 lo]) (by simp [results, Try.results28, go_sem]) rfl ⟨rfl, rfl⟩
theorem mk29 (a : Option Addr) (n c : Nat) (w : World) : Calls Try.prog 29 #[.slice a n c] w fun e w' => e = .returned (.agg #[.slice a n c]) ∧ w.alloc (.cells #[.slice a n c] 28) = w' := by
  go_enter Try.func29, Try.ntmps29
  go_wp2
  exact bodyPost_ret (v := .agg #[.slice a n c]) (by simp [results, Try.results29, go_sem]) rfl ⟨rfl, rfl⟩

def flatT (ps : Nat → Trm) (k : Nat) : List Value := (List.range k).flatMap fun i => (ps i).cells
theorem flatT_succ (ps : Nat → Trm) (k : Nat) : flatT ps (k + 1) = flatT ps k ++ (ps k).cells := by simp [flatT, List.range_succ]
theorem flatT_length (ps : Nat → Trm) : ∀ k, (flatT ps k).length = k * 4
  | 0 => rfl
  | k + 1 => by rw [flatT_succ, List.length_append, flatT_length ps k]; simp [Trm.cells]; omega
theorem flatT_at (ps : Nat → Trm) (n k j : Nat) (hk : k < n) (hj : j < 4) : (flatT ps n)[k * 4 + j]? = (ps k).cells[j]? := by
  induction n with
  | zero => omega
  | succ n ih =>
    rw [flatT_succ]
    by_cases h : k < n
    · rw [List.getElem?_append_left (by rw [flatT_length]; omega)]; exact ih h
    · obtain rfl : k = n := by omega
      rw [List.getElem?_append_right (by rw [flatT_length]; omega), flatT_length]
      congr 1; omega
theorem trms_of_own {w : World} {base g n cap e : Nat} {ps : Nat → Trm} (h : w.ownsRow base e 4 (.slice (some ⟨g, 0, none⟩) n cap) n (flatT ps n)) : IsTrms w (some ⟨g, 0, none⟩) n ps := by
  obtain ⟨_, h | ⟨g', cap', cur, hv, _, hh, hle, hmax, hsz, htk⟩⟩ := h
  · simp at h
  · simp only [Value.slice.injEq, Option.some.injEq, Addr.mk.injEq, true_and, and_true] at hv
    obtain ⟨rfl, rfl⟩ := hv
    have hlt : g < w.heap.size := Bx.lt (t := e) (cs := cur) hh
    refine ⟨by unfold maxLen at hmax; omega, fun k hk => ⟨g, 0, rfl, hlt, ?_⟩⟩
    have key : ∀ j v, j < 4 → (ps k).cells[j]? = some v → w.cell? ⟨g, 0 + k * 4 + j, none⟩ = some v := by
      intro j v hj hc
      rw [Nat.zero_add, cell_of_row w g _ cur e (0, 0) hh, ← hc, ← flatT_at ps n k j hk hj, ← htk, List.getElem?_take_of_lt (by omega)]
      simp
    exact ⟨key 0 _ (by omega) rfl, key 1 _ (by omega) rfl, key 2 _ (by omega) rfl, key 3 _ (by omega) rfl⟩
theorem grown_below' {B : Nat} {W w' : World} {row : Option Nat} (hg : W.grownBy w' row) (hB : B ≤ W.heap.size) (hr : ∀ k, row = some k → B ≤ k) : Below B W w' := (Below.refl B W).grown hg hB hr

/-- append within the capacity of a row of the call's own, at one operation (in a region that draws). -/
theorem wp_append_fits {P : Program} (w : World) {o : Oper} {a : Act} {K : Act → World → Prop} {Q : Exit → Act → World → Prop}
    (s x : Operand) (t : TypeId) (hop : o.op = Op.call { callee := Callee.builtin Builtin.append, args := #[s, x], argTypes := #[t, t] })
    (base : Nat) (e : TypeId) (i : TypeInfo) (size : Nat) (h1 : P.underlying t = some (.slice e)) (h2 : P.info? e = some i) (h4 : i.size = size)
    (g k cap : Nat) (xs : List Value) (hs : a.eval s = .slice (some ⟨g, 0, none⟩) k cap) (hown : w.ownsRow base e size (.slice (some ⟨g, 0, none⟩) k cap) k xs) (ad : Addr) (m c : Nat) (news : List Value) (hx : a.eval x = .slice (some ad) m c) (hn : news.length = m * size)
    (hc : ∀ j u, news[j]? = some u → w.cell? (ad.add j) = some u) (h1c : ∀ u ∈ news, u.oneCell' = true) (b1 : k + m ≤ cap)
    (hK : ∀ w', w'.ownsRow base e size (.slice (some ⟨g, 0, none⟩) (k + m) cap) (k + m) (xs ++ news) → w.grownBy w' (some g) → K (a.put o.dst (.slice (some ⟨g, 0, none⟩) (k + m) cap)) w') :
    Oper.wp P o a w K Q := by
  obtain ⟨w', hrun, r1, r2⟩ := run_append_fits (P := P) w base t o.type e i size h1 h2 h4 g k cap xs hown ad m c news hn hc h1c b1
  unfold Oper.wp
  simp [execOp, hop, resolve, invoke, builtin, hs, hx, hrun, Result.andThen]
  exact hK w' r1 r2

structure CInv (w : World) (n : Nat) (ps : Nat → Trm) (k : Nat) (wr : World) : Prop where
  bel : Below w.heap.size w wr
  rb : Bx wr w.heap.size 28 #[.slice none 0 0]
  own : wr.ownsRow (w.heap.size + 1) 61 4 (.slice (some ⟨w.heap.size + 1, 0, none⟩) k n) k (flatT ps k)
theorem CInv.start {w w1 : World} {n : Nat} (ps : Nat → Trm) (hown : w1.ownsRow (w.heap.size + 1) 61 4 (.slice (some ⟨(w.alloc (.cells #[.slice none 0 0] 28)).heap.size, 0, none⟩) 0 n) 0 []) (hg : (w.alloc (.cells #[.slice none 0 0] 28)).grownBy w1 none) : CInv w n ps 0 w1 := by
  have hb : Below (w.heap.size + 1) (w.alloc (.cells #[.slice none 0 0] 28)) w1 := grown_below' hg (by simp) (by simp)
  exact ⟨(below_box _ _).trans (hb.mono (by omega)), (Bx.new _ _ _).below hb (by omega), by rw [show (w.alloc (.cells #[.slice none 0 0] 28)).heap.size = w.heap.size + 1 by simp] at hown; exact hown⟩
theorem CInv.step {w wr W w' : World} {n : Nat} {ps : Nat → Trm} {k : Nat} (h : CInv w n ps k wr) (hW : Below wr.heap.size wr W) (hg : W.grownBy w' (some (w.heap.size + 1)))
    (hown : w'.ownsRow (w.heap.size + 1) 61 4 (.slice (some ⟨w.heap.size + 1, 0, none⟩) (k + 1) n) (k + 1) (flatT ps k ++ [.int .u8 (ps k).op, .string (ps k).attr, .int .i64 (ps k).hi, .int .u64 (ps k).lo])) : CInv w n ps (k + 1) w' := by
  have hsz : w.heap.size < wr.heap.size := h.rb.lt
  have hs2 := hW.size
  have hb : Below (w.heap.size + 1) wr w' := (hW.mono (by omega)).trans (grown_below' hg (by omega) (by intro k hk; simp at hk; omega))
  exact ⟨h.bel.trans (hb.mono (by omega)), h.rb.below hb (by omega), by rw [flatT_succ]; exact hown⟩
theorem IsTrms.setRow {w : World} {g r n : Nat} {ps : Nat → Trm} {cs : Array Value} (h : IsTrms w (some ⟨g, 0, none⟩) n ps) (hne : g ≠ r) : IsTrms (w.setRow r cs) (some ⟨g, 0, none⟩) n ps := by
  refine ⟨h.le, fun k hk => ?_⟩
  obtain ⟨b, off, e, hb, hp⟩ := h.at' k hk
  simp only [Option.some.injEq, Addr.mk.injEq, and_true] at e
  obtain ⟨rfl, rfl⟩ := e
  refine ⟨_, _, rfl, by simpa using hb, ?_⟩
  obtain ⟨c0, c1, c2, c3⟩ := hp
  constructor <;> (rw [cell_setRow_other _ _ _ _ hne]; assumption)
theorem info61 : (Try.prog.info? 61).map (fun i => (i.zero, i.size, i.bytes)) = some (some (.agg #[.int .u8 0, .string ⟨#[]⟩, .int .i64 0, .int .u64 0]), 4, 40) := by kernel_rfl
theorem info28 {cs : Array Value} (h : cs.size = 1) : (Try.prog.info? 28).map (·.size) = some cs.size := by rw [h]; kernel_rfl
theorem cells_new2 (wr : World) (A : Obj) (l : List Value) (t : TypeId) (j : Nat) (u : Value) (hj : l[j]? = some u) : ((wr.alloc A).alloc (.cells l.toArray t)).cell? ((⟨wr.heap.size + 1, 0, none⟩ : Addr).add j) = some u := by
  have hadd : (⟨wr.heap.size + 1, 0, none⟩ : Addr).add j = ⟨wr.heap.size + 1, j, none⟩ := by unfold Addr.add; split <;> simp_all
  have h : Bx ((wr.alloc A).alloc (.cells l.toArray t)) (wr.heap.size + 1) t l.toArray := by have h := Bx.new (wr.alloc A) t l.toArray; simpa using h
  rw [hadd, cell_of_row _ _ _ _ _ _ h]
  simpa using hj

set_option maxRecDepth 10000 in
set_option maxHeartbeats 2000000 in
theorem mkc11 (a : Option Addr) (n c : Nat) (ps : Nat → Trm) (w : World) (h : IsTrms w a n ps) (hn : n ≤ 256) :
    Calls Try.prog 11 #[.slice a n c] w fun e w' => ∃ g cap, e = .returned (.agg #[.slice (some ⟨g, 0, none⟩) n cap]) ∧ IsTrms w' (some ⟨g, 0, none⟩) n ps ∧ Below w.heap.size w w' := by
  obtain ⟨i6, hi6, hz6, hs6, hy6⟩ := info_parts info61
  go_enter Try.func11, Try.ntmps11
  go_wp2_with (at_make; go_loud (refine wpList_make_own _ rfl _ (.tmp 6) 26 rfl (w.heap.size + 1) 61 i6 _ 4 Try.underlying26 hi6 hz6 hs6 .i64 .i64 _ n rfl rfl rfl (by rw [hy6]; omega) (by unfold maxLen; omega) (by simp) ?_; intro w1 hown1 hgrow1; have V0 := CInv.start ps hown1 hgrow1; clear hown1 hgrow1))
  go_loopw [3, 10] (fun v i wr => ∃ k : Nat, k ≤ n ∧ i = .int .i64 k ∧ v = .slice (some ⟨w.heap.size + 1, 0, none⟩) k n ∧ CInv w n ps k wr) (fun _ i _ => n - (intOf i).toNat)
  case atStart => exact ⟨0, Nat.zero_le _, rfl, rfl, V0⟩
  case round =>
    clear V0
    obtain ⟨k, hk, rfl, rfl, V⟩ := hrel
    by_cases hlt : k < n
    · obtain ⟨b, off, rfl, hb', hp⟩ := h.at' k hlt
      have hlt' : (k : Int) < (n : Int) := by omega
      have hS : ∀ w' : World, Below w.heap.size w w' → w'.cell? ⟨b, off + k * 4, none⟩ = some (.int .u8 (ps k).op) ∧ w'.cell? ⟨b, off + k * 4 + 1, none⟩ = some (.string (ps k).attr) ∧ w'.cell? ⟨b, off + k * 4 + 2, none⟩ = some (.int .i64 (ps k).hi) ∧ w'.cell? ⟨b, off + k * 4 + 3, none⟩ = some (.int .u64 (ps k).lo) := fun w' hb =>
        let q := hp.below hb hb'
        ⟨q.c0, q.c1, q.c2, q.c3⟩
      have HS : Hid _ := hS
      clear hS
      go_wp2
      go_region_held3 (fun w' => w'.cell? ⟨b, off + k * 4, none⟩ = some (.int .u8 (ps k).op) ∧ w'.cell? ⟨b, off + k * 4 + 1, none⟩ = some (.string (ps k).attr) ∧ w'.cell? ⟨b, off + k * 4 + 2, none⟩ = some (.int .i64 (ps k).hi) ∧ w'.cell? ⟨b, off + k * 4 + 3, none⟩ = some (.int .u64 (ps k).lo)) (first | exact HS.out _ (by assumption) | exact HS.out _ V.bel.drew | exact HS.out _ (V.bel.drew.alloc V.bel.size _) | exact HS.out _ ((V.bel.drew.alloc V.bel.size _).alloc (by simp; have := V.bel.size; omega) _))
        (first
          | (go_at_call 28; refine (mk28 _ _ _ _ _).mono ?_; rintro e w' ⟨rfl, rfl⟩)
          | (rw [if_pos (by rfl)]; refine wp_append_fits _ (.tmp 13) (.tmp 35) 26 rfl (w.heap.size + 1) 61 i6 4 Try.underlying26 hi6 hs6 (w.heap.size + 1) k n (flatT ps k) rfl (by exact ((V.own.alloc _).alloc _)) ⟨wr.heap.size + 1, 0, none⟩ 1 1 [.int .u8 (ps k).op, .string (ps k).attr, .int .i64 (ps k).hi, .int .u64 (ps k).lo] rfl rfl (by exact fun j u hj => cells_new2 _ _ _ _ j u hj) (by intro u hu; simp at hu; rcases hu with rfl | rfl | rfl | rfl <;> rfl) (by omega) ?_; intro w2 hown2 hgrow2; have V2 : CInv w n ps (k + 1) w2 := V.step (by exact (below_box2 wr _ _).drew) hgrow2 hown2; clear hown2 hgrow2; have hb2 := V2.bel))
      go_wp2
      go_roundw
      case rel => exact ⟨k + 1, by omega, by go_num, rfl, by assumption⟩
      case measure => simp [intOf]; omega
    · obtain rfl : k = n := by omega
      have hT := trms_of_own V.own
      have hr := V.rb.alloc (.cells #[.slice (some ⟨w.heap.size + 1, 0, none⟩) k k] 28)
      go_wp2_with (first
        | (go_at_call 29; go_loud (refine (mk29 _ _ _ _).mono ?_; rintro e w3 ⟨rfl, rfl⟩))
        | (refine wpList_store_row rfl 28 (.tmp 2) (.tmp 39) rfl w.heap.size #[.slice (some ⟨w.heap.size + 1, 0, none⟩) k k] rfl rfl 28 #[.slice none 0 0] hr (info28 rfl) rfl (by simp [Value.oneCell']) ?_))
      have hne : w.heap.size + 1 ≠ w.heap.size := by omega
      refine bodyPost_ret (v := .agg #[.slice (some ⟨w.heap.size + 1, 0, none⟩) k k]) (results_cell_row Try.results11 _ _ w.heap.size 28 _ (0, 0) _ rfl (setRow_heap _ _ _ _ 28 (0, 0) hr) Try.underlying28 rfl (info28 rfl)) rfl ⟨_, _, rfl, ?_, below_setRow (V.bel.alloc V.bel.size _) (Nat.le_refl _) _⟩
      exact (hT.below (below_box wr _)).setRow hne

end Go.Proofs.Qxb6601324a
