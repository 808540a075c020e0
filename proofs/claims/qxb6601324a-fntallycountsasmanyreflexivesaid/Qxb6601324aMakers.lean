/-
  toTally and the makers: a copy of the tally, in new memory.
-/
import Derived.Test.Qxb6601324aBoxes
import Derived.Laws.CopyOwn
namespace Go.Proofs.Qxb6601324a
open Go.RowKit
set_option linter.unusedSimpArgs false

theorem mk33 (s1 : ByteArray) (f : Int) (s2 : ByteArray) (ver n hi lo : Int) (w : World) :
    Calls Try.prog 33 #[.string s1, .int .u8 f, .string s2, .int .u64 ver, .int .u64 n, .int .i64 hi, .int .u64 lo] w fun e w' => e = .returned (.agg #[.string s1, .int .u8 f, .string s2, .int .u64 ver, .int .u64 n, .int .i64 hi, .int .u64 lo]) ∧ w.alloc (.cells #[.string s1, .int .u8 f, .string s2, .int .u64 ver, .int .u64 n, .int .i64 hi, .int .u64 lo] 78) = w' := by
  go_enter Try.func33, Try.ntmps33
  go_wp2
  exact bodyPost_ret (v := .agg #[.string s1, .int .u8 f, .string s2, .int .u64 ver, .int .u64 n, .int .i64 hi, .int .u64 lo]) (by simp [results, Try.results33, go_sem]) rfl ⟨rfl, rfl⟩
theorem mk34 (s1 : ByteArray) (n lh ll hh hl : Int) (w : World) :
    Calls Try.prog 34 #[.string s1, .int .u64 n, .int .i64 lh, .int .u64 ll, .int .i64 hh, .int .u64 hl] w fun e w' => e = .returned (.agg #[.string s1, .int .u64 n, .int .i64 lh, .int .u64 ll, .int .i64 hh, .int .u64 hl]) ∧ w.alloc (.cells #[.string s1, .int .u64 n, .int .i64 lh, .int .u64 ll, .int .i64 hh, .int .u64 hl] 81) = w' := by
  go_enter Try.func34, Try.ntmps34
  go_wp2
  exact bodyPost_ret (v := .agg #[.string s1, .int .u64 n, .int .i64 lh, .int .u64 ll, .int .i64 hh, .int .u64 hl]) (by simp [results, Try.results34, go_sem]) rfl ⟨rfl, rfl⟩
theorem mk35 (m : Int) (va : Option Addr) (vn vc : Nat) (ba : Option Addr) (bn bc : Nat) (T : Tops) (cut : Bool) (w : World) :
    Calls Try.prog 35 #[.int .u64 m, .slice va vn vc, .slice ba bn bc, .agg #[.int .u64 T.t0, .int .u64 T.t1, .int .u64 T.t2, .int .u64 T.t3, .int .u64 T.t4, .int .u64 T.t5, .int .u64 T.t6, .int .u64 T.t7, .int .u64 T.t8, .int .u64 T.t9, .int .u64 T.t10, .int .u64 T.t11, .int .u64 T.t12, .int .u64 T.t13, .int .u64 T.t14, .int .u64 T.t15], .bool cut] w fun e w' => e = .returned (.agg (tcells m va vn vc ba bn bc T cut)) ∧ Below w.heap.size w w' := by
  have hl : Bx ((w.alloc (.cells #[.int .u64 T.t0, .int .u64 T.t1, .int .u64 T.t2, .int .u64 T.t3, .int .u64 T.t4, .int .u64 T.t5, .int .u64 T.t6, .int .u64 T.t7, .int .u64 T.t8, .int .u64 T.t9, .int .u64 T.t10, .int .u64 T.t11, .int .u64 T.t12, .int .u64 T.t13, .int .u64 T.t14, .int .u64 T.t15] 38)).alloc (.cells tzero 46)) w.heap.size 38 #[.int .u64 T.t0, .int .u64 T.t1, .int .u64 T.t2, .int .u64 T.t3, .int .u64 T.t4, .int .u64 T.t5, .int .u64 T.t6, .int .u64 T.t7, .int .u64 T.t8, .int .u64 T.t9, .int .u64 T.t10, .int .u64 T.t11, .int .u64 T.t12, .int .u64 T.t13, .int .u64 T.t14, .int .u64 T.t15] := (Bx.new _ _ _).alloc _
  have hs : Bx ((w.alloc (.cells #[.int .u64 T.t0, .int .u64 T.t1, .int .u64 T.t2, .int .u64 T.t3, .int .u64 T.t4, .int .u64 T.t5, .int .u64 T.t6, .int .u64 T.t7, .int .u64 T.t8, .int .u64 T.t9, .int .u64 T.t10, .int .u64 T.t11, .int .u64 T.t12, .int .u64 T.t13, .int .u64 T.t14, .int .u64 T.t15] 38)).alloc (.cells tzero 46)) (w.heap.size + 1) 46 tzero := by
    have h := Bx.new (w.alloc (.cells #[.int .u64 T.t0, .int .u64 T.t1, .int .u64 T.t2, .int .u64 T.t3, .int .u64 T.t4, .int .u64 T.t5, .int .u64 T.t6, .int .u64 T.t7, .int .u64 T.t8, .int .u64 T.t9, .int .u64 T.t10, .int .u64 T.t11, .int .u64 T.t12, .int .u64 T.t13, .int .u64 T.t14, .int .u64 T.t15] 38)) 46 tzero
    simpa using h
  go_enter Try.func35, Try.ntmps35
  go_wp2_with (first
    | (refine wpList_load_row rfl 38 (.tmp 8) rfl w.heap.size rfl 38 _ (0, 0) _ hl Try.underlying38 rfl (by kernel_rfl) ?_)
    | (refine wpList_store_row rfl 46 (.tmp 10) (.tmp 16) rfl (w.heap.size + 1) (tcells m va vn vc ba bn bc T cut) rfl rfl 46 tzero hs (info46 rfl) rfl (by simp [tcells, Value.oneCell']) ?_))
  exact bodyPost_ret (v := .agg (tcells m va vn vc ba bn bc T cut)) (results_cell_row Try.results35 _ _ (w.heap.size + 1) 46 _ (0, 0) _ rfl (setRow_heap _ _ tzero _ 46 (0, 0) hs) Try.underlying46 rfl (info46 rfl)) rfl ⟨rfl, below_setRow (below_box2 _ _ _) (Nat.le_succ _) _⟩

def Par.cells (p : Par) : List Value := [.string p.nm, .int .u8 p.fn, .string p.attr, .int .u64 p.ver, .int .u64 p.n, .int .i64 p.hi, .int .u64 p.lo]
def Bnd.cells (p : Bnd) : List Value := [.string p.attr, .int .u64 p.n, .int .i64 p.lh, .int .u64 p.ll, .int .i64 p.hh, .int .u64 p.hl]
def flatP (ps : Nat → Par) (k : Nat) : List Value := (List.range k).flatMap fun i => (ps i).cells
def flatB (ps : Nat → Bnd) (k : Nat) : List Value := (List.range k).flatMap fun i => (ps i).cells
theorem flatP_succ (ps : Nat → Par) (k : Nat) : flatP ps (k + 1) = flatP ps k ++ (ps k).cells := by simp [flatP, List.range_succ]
theorem flatB_succ (ps : Nat → Bnd) (k : Nat) : flatB ps (k + 1) = flatB ps k ++ (ps k).cells := by simp [flatB, List.range_succ]
theorem flatP_length (ps : Nat → Par) : ∀ k, (flatP ps k).length = k * 7
  | 0 => rfl
  | k + 1 => by rw [flatP_succ, List.length_append, flatP_length ps k]; simp [Par.cells]; omega
theorem flatB_length (ps : Nat → Bnd) : ∀ k, (flatB ps k).length = k * 6
  | 0 => rfl
  | k + 1 => by rw [flatB_succ, List.length_append, flatB_length ps k]; simp [Bnd.cells]; omega
theorem flatP_at (ps : Nat → Par) (n k j : Nat) (hk : k < n) (hj : j < 7) : (flatP ps n)[k * 7 + j]? = (ps k).cells[j]? := by
  induction n with
  | zero => omega
  | succ n ih =>
    rw [flatP_succ]
    by_cases h : k < n
    · rw [List.getElem?_append_left (by rw [flatP_length]; omega)]; exact ih h
    · obtain rfl : k = n := by omega
      rw [List.getElem?_append_right (by rw [flatP_length]; omega), flatP_length]
      congr 1; omega
theorem flatB_at (ps : Nat → Bnd) (n k j : Nat) (hk : k < n) (hj : j < 6) : (flatB ps n)[k * 6 + j]? = (ps k).cells[j]? := by
  induction n with
  | zero => omega
  | succ n ih =>
    rw [flatB_succ]
    by_cases h : k < n
    · rw [List.getElem?_append_left (by rw [flatB_length]; omega)]; exact ih h
    · obtain rfl : k = n := by omega
      rw [List.getElem?_append_right (by rw [flatB_length]; omega), flatB_length]
      congr 1; omega

/-- A row that the call owns, and all of whose elements are laid, holds them. -/
theorem pars_of_own {w : World} {base g n cap : Nat} {ps : Nat → Par} (h : w.ownsRow base 78 7 (.slice (some ⟨g, 0, none⟩) n cap) n (flatP ps n)) : IsPars w (some ⟨g, 0, none⟩) n ps := by
  obtain ⟨_, h | ⟨g', cap', cur, hv, _, hh, hle, hmax, hsz, htk⟩⟩ := h
  · simp at h
  · simp only [Value.slice.injEq, Option.some.injEq, Addr.mk.injEq, true_and, and_true] at hv
    obtain ⟨rfl, rfl⟩ := hv
    have hlt : g < w.heap.size := Bx.lt (t := 78) (cs := cur) hh
    refine ⟨by unfold maxLen at hmax; omega, fun k hk => ⟨g, 0, rfl, hlt, ?_⟩⟩
    have key : ∀ j v, j < 7 → (ps k).cells[j]? = some v → w.cell? ⟨g, 0 + k * 7 + j, none⟩ = some v := by
      intro j v hj hc
      rw [Nat.zero_add, cell_of_row w g _ cur 78 (0, 0) hh, ← hc, ← flatP_at ps n k j hk hj, ← htk, List.getElem?_take_of_lt (by omega)]
      simp
    exact ⟨key 0 _ (by omega) rfl, key 1 _ (by omega) rfl, key 2 _ (by omega) rfl, key 3 _ (by omega) rfl, key 4 _ (by omega) rfl, key 5 _ (by omega) rfl, key 6 _ (by omega) rfl⟩
theorem bnds_of_own {w : World} {base g n cap : Nat} {ps : Nat → Bnd} (h : w.ownsRow base 81 6 (.slice (some ⟨g, 0, none⟩) n cap) n (flatB ps n)) : IsBnds w (some ⟨g, 0, none⟩) n ps := by
  obtain ⟨_, h | ⟨g', cap', cur, hv, _, hh, hle, hmax, hsz, htk⟩⟩ := h
  · simp at h
  · simp only [Value.slice.injEq, Option.some.injEq, Addr.mk.injEq, true_and, and_true] at hv
    obtain ⟨rfl, rfl⟩ := hv
    have hlt : g < w.heap.size := Bx.lt (t := 81) (cs := cur) hh
    refine ⟨by unfold maxLen at hmax; omega, fun k hk => ⟨g, 0, rfl, hlt, ?_⟩⟩
    have key : ∀ j v, j < 6 → (ps k).cells[j]? = some v → w.cell? ⟨g, 0 + k * 6 + j, none⟩ = some v := by
      intro j v hj hc
      rw [Nat.zero_add, cell_of_row w g _ cur 81 (0, 0) hh, ← hc, ← flatB_at ps n k j hk hj, ← htk, List.getElem?_take_of_lt (by omega)]
      simp
    exact ⟨key 0 _ (by omega) rfl, key 1 _ (by omega) rfl, key 2 _ (by omega) rfl, key 3 _ (by omega) rfl, key 4 _ (by omega) rfl, key 5 _ (by omega) rfl⟩
end Go.Proofs.Qxb6601324a
