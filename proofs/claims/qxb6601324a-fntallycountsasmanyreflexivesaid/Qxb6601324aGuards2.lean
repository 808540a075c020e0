/-
  tallyBytes, tallyFit3: each returns, and turns nothing that was there.
-/
import Derived.Test.Qxb6601324aBoxes
namespace Go.Proofs.Qxb6601324a
open Go.RowKit
set_option linter.unusedSimpArgs false
set_option maxHeartbeats 4000000 in
theorem tb32 (m : Int) (va : Option Addr) (vn vc : Nat) (ba : Option Addr) (bn bc : Nat) (T : Tops) (cut : Bool) (ps : Nat → Par) (bs : Nat → Bnd) (w : World) (hv : IsPars w va vn ps) (hb : IsBnds w ba bn bs) :
    Calls Try.prog 32 #[.agg #[.int .u64 m, .slice va vn vc, .slice ba bn bc, .int .u64 T.t0, .int .u64 T.t1, .int .u64 T.t2, .int .u64 T.t3, .int .u64 T.t4, .int .u64 T.t5, .int .u64 T.t6, .int .u64 T.t7, .int .u64 T.t8, .int .u64 T.t9, .int .u64 T.t10, .int .u64 T.t11, .int .u64 T.t12, .int .u64 T.t13, .int .u64 T.t14, .int .u64 T.t15, .bool cut]] w (SomeInt w) := by
  have hvl := hv.le
  have hbl := hb.le
  by_cases hx : 4096 < vn
  · go_enter Try.func32, Try.ntmps32
    go_wp2
    go_ret
    exact someInt _ (by decide) (by decide) (below_box _ _)
  by_cases hy : 4096 < bn
  · go_enter Try.func32, Try.ntmps32
    go_wp2
    go_ret
    exact someInt _ (by decide) (by decide) (below_box _ _)
  go_enter Try.func32, Try.ntmps32
  go_wp2
  go_loop [3, 22] (fun s i => ∃ (k : Nat) (z : Int), k ≤ vn ∧ 0 ≤ z ∧ z ≤ 1048576 ∧ i = .int .i64 k ∧ s = .int .i64 z) (fun _ i => vn - (intOf i).toNat)
  case atStart => exact ⟨0, _, Nat.zero_le _, by omega, by omega, rfl, rfl⟩
  case round =>
    obtain ⟨k0, z0, hk0, hz00, hz10, rfl, rfl⟩ := hrel
    by_cases hlt : k0 < vn
    · obtain ⟨b, off, rfl, hb', hp⟩ := hv.at' k0 hlt
      have hbn : ¬ b = w.heap.size := by omega
      have c0 := hp.c0
      have c2 := hp.c2
      by_cases h1 : 1048576 < ((ps k0).nm.size : Int)
      · go_wp2
        go_ret
        exact someInt _ (by decide) (by decide) (below_box _ _)
      by_cases h2 : 1048576 < ((ps k0).attr.size : Int)
      · go_wp2
        go_ret
        exact someInt _ (by decide) (by decide) (below_box _ _)
      go_wp2
      · go_ret
        exact someInt _ (by decide) (by decide) (below_box _ _)
      go_round
      case rel => exact ⟨k0 + 1, _, by omega, by omega, by omega, by go_num, rfl⟩
      case measure => simp [intOf]; omega
    · go_wp2
      go_loop [3, 57] (fun s i => ∃ (k : Nat) (z : Int), k ≤ bn ∧ 0 ≤ z ∧ z ≤ 1048576 ∧ i = .int .i64 k ∧ s = .int .i64 z) (fun _ i => bn - (intOf i).toNat)
      case atStart => exact ⟨0, _, Nat.zero_le _, by omega, by omega, rfl, rfl⟩
      case round =>
        obtain ⟨k1, z1, hk1, hz01, hz11, rfl, rfl⟩ := hrel
        by_cases hlt : k1 < bn
        · obtain ⟨b, off, rfl, hb', hp⟩ := hb.at' k1 hlt
          have hbn : ¬ b = w.heap.size := by omega
          have c0 := hp.c0
          go_wp2
          any_goals (go_ret; exact someInt _ (by decide) (by decide) (below_box _ _))
          go_round
          case rel => exact ⟨k1 + 1, _, by omega, by omega, by omega, by go_num, rfl⟩
          case measure => simp [intOf]; omega
        · go_wp2
          go_ret
          exact someInt _ (by omega) (by omega) (below_box _ _)

set_option maxHeartbeats 400000 in
theorem fit17 (c0 c1 c2 : Array Value) (h0 : c0.size = 20) (h1 : c1.size = 20) (h2 : c2.size = 20)  (w : World)
   (hc0 : ∀ w', Below w.heap.size w w' → Calls Try.prog 32 #[.agg c0] w' (SomeInt w'))
   (hc1 : ∀ w', Below w.heap.size w w' → Calls Try.prog 32 #[.agg c1] w' (SomeInt w'))
   (hc2 : ∀ w', Below w.heap.size w w' → Calls Try.prog 32 #[.agg c2] w' (SomeInt w')) :
    Calls Try.prog 17 #[.agg c0, .agg c1, .agg c2] w (SomeBool w) := by
  have i0 : (Try.prog.info? 40).map (·.size) = some c0.size := by rw [h0]; kernel_rfl
  have i1 : (Try.prog.info? 40).map (·.size) = some c1.size := by rw [h1]; kernel_rfl
  have i2 : (Try.prog.info? 40).map (·.size) = some c2.size := by rw [h2]; kernel_rfl
  go_enter Try.func17, Try.ntmps17
  go_wp2
  refine wp_region_held_drew (S := fun w' => S3 w c0 c1 c2 w') (by kernel_rfl) (S3.start w c0 c1 c2).drew (fun hHeld => ?_)
  refine wpAnyH_take (i := 0) (v := .agg c0) rfl (by kernel_rfl) (by kernel_rfl) (by kernel_rfl) (fun _ _ _ h => h) (yieldsIf_load_row (by rfl) 40 _ rfl w.heap.size rfl 40 c0 _ (fun w h => h.b0) Try.underlying40 rfl i0) hHeld ?_
  try simp only [List.getElem_toArray, List.getElem_cons_zero, List.getElem_cons_succ, Act.put, List.setIfInBounds_toArray, List.set_cons_zero, List.set_cons_succ]
  refine wpAnyH_take (i := 2) (v := .agg c1) rfl (by kernel_rfl) (by kernel_rfl) (by kernel_rfl) (fun _ _ _ h => h) (yieldsIf_load_row (by rfl) 40 _ rfl (w.heap.size + 1) rfl 40 c1 _ (fun w h => h.b1) Try.underlying40 rfl i1) hHeld ?_
  try simp only [List.getElem_toArray, List.getElem_cons_zero, List.getElem_cons_succ, Act.put, List.setIfInBounds_toArray, List.set_cons_zero, List.set_cons_succ]
  refine wpAnyH_take (i := 5) (v := .agg c2) rfl (by kernel_rfl) (by kernel_rfl) (by kernel_rfl) (fun _ _ _ h => h) (yieldsIf_load_row (by rfl) 40 _ rfl (w.heap.size + 2) rfl 40 c2 _ (fun w h => h.b2) Try.underlying40 rfl i2) hHeld ?_
  try simp only [List.getElem_toArray, List.getElem_cons_zero, List.getElem_cons_succ, Act.put, List.setIfInBounds_toArray, List.set_cons_zero, List.set_cons_succ]
  refine wpAnyH_ready (rs := [1]) (by kernel_rfl) (by simp) ?_
  refine AllReadyH.cons rfl (fun K hK => ?_) AllReadyH.nil
  go_simp
  refine (hc0 _ hHeld.bel).mono ?_
  rintro e w1 ⟨⟨n0, _, _, rfl⟩, hb0⟩
  refine hK.out _ _ (hHeld.below hb0) (fun hHeld => ?_)
  clear hK K hb0
  try simp only [List.getElem_toArray, List.getElem_cons_zero, List.getElem_cons_succ, Act.put, List.setIfInBounds_toArray, List.set_cons_zero, List.set_cons_succ]
  refine wpAnyH_ready (rs := [3]) (by kernel_rfl) (by simp) ?_
  refine AllReadyH.cons rfl (fun K hK => ?_) AllReadyH.nil
  go_simp
  refine (hc1 _ hHeld.bel).mono ?_
  rintro e w2 ⟨⟨n1, _, _, rfl⟩, hb0⟩
  refine hK.out _ _ (hHeld.below hb0) (fun hHeld => ?_)
  clear hK K hb0
  try simp only [List.getElem_toArray, List.getElem_cons_zero, List.getElem_cons_succ, Act.put, List.setIfInBounds_toArray, List.set_cons_zero, List.set_cons_succ]
  refine wpAnyH_take (i := 4) (v := ?_) rfl (by kernel_rfl) (by kernel_rfl) (by kernel_rfl) (fun _ _ _ h => h) (Or.inl ⟨by rfl, ?_⟩) hHeld ?_
  rotate_left
  · intro w hSw; go_simp; first | done | with_reducible rfl
  try simp only [List.getElem_toArray, List.getElem_cons_zero, List.getElem_cons_succ, Act.put, List.setIfInBounds_toArray, List.set_cons_zero, List.set_cons_succ]
  refine wpAnyH_ready (rs := [6]) (by kernel_rfl) (by simp) ?_
  refine AllReadyH.cons rfl (fun K hK => ?_) AllReadyH.nil
  go_simp
  refine (hc2 _ hHeld.bel).mono ?_
  rintro e w3 ⟨⟨n2, _, _, rfl⟩, hb0⟩
  refine hK.out _ _ (hHeld.below hb0) (fun hHeld => ?_)
  clear hK K hb0
  try simp only [List.getElem_toArray, List.getElem_cons_zero, List.getElem_cons_succ, Act.put, List.setIfInBounds_toArray, List.set_cons_zero, List.set_cons_succ]
  refine wpAnyH_take (i := 7) (v := ?_) rfl (by kernel_rfl) (by kernel_rfl) (by kernel_rfl) (fun _ _ _ h => h) (Or.inl ⟨by rfl, ?_⟩) hHeld ?_
  rotate_left
  · intro w hSw; go_simp; first | done | with_reducible rfl
  try simp only [List.getElem_toArray, List.getElem_cons_zero, List.getElem_cons_succ, Act.put, List.setIfInBounds_toArray, List.set_cons_zero, List.set_cons_succ]
  refine wpAnyH_take (i := 8) (v := ?_) rfl (by kernel_rfl) (by kernel_rfl) (by kernel_rfl) (fun _ _ _ h => h) (Or.inl ⟨by rfl, ?_⟩) hHeld ?_
  rotate_left
  · intro w hSw; go_simp; first | done | with_reducible rfl
  try simp only [List.getElem_toArray, List.getElem_cons_zero, List.getElem_cons_succ, Act.put, List.setIfInBounds_toArray, List.set_cons_zero, List.set_cons_succ]
  refine wpAnyH_take (i := 9) (v := ?_) rfl (by kernel_rfl) (by kernel_rfl) (by kernel_rfl) (fun _ _ _ h => h) (Or.inl ⟨by rfl, ?_⟩) hHeld ?_
  rotate_left
  · intro w hSw; go_simp; first | done | with_reducible rfl
  try simp only [List.getElem_toArray, List.getElem_cons_zero, List.getElem_cons_succ, Act.put, List.setIfInBounds_toArray, List.set_cons_zero, List.set_cons_succ]
  refine wpAnyH_done (by kernel_rfl) ?_ _
  go_wp2
  go_ret
  exact someBool _ hHeld.bel
end Go.Proofs.Qxb6601324a
