/-
  The guards of the two laws over tallies: each returns a bool (an int) and turns nothing that was there.
-/
import Derived.Test.Qxb6601324aBase
namespace Go.Proofs.Qxb6601324a
open Go.RowKit

set_option maxRecDepth 100000 in
set_option maxHeartbeats 4000000 in
theorem zz22 (m : Int) (va : Option Addr) (vn vc : Nat) (ba : Option Addr) (bn bc : Nat) (T : Tops) (cut : Bool) (ps : Nat → Par) (bs : Nat → Bnd) (w : World) (hv : IsPars w va vn ps) (hb : IsBnds w ba bn bs):
    Calls Try.prog 22 #[.agg #[.int .u64 m, .slice va vn vc, .slice ba bn bc, .int .u64 T.t0, .int .u64 T.t1, .int .u64 T.t2, .int .u64 T.t3, .int .u64 T.t4, .int .u64 T.t5, .int .u64 T.t6, .int .u64 T.t7, .int .u64 T.t8, .int .u64 T.t9, .int .u64 T.t10, .int .u64 T.t11, .int .u64 T.t12, .int .u64 T.t13, .int .u64 T.t14, .int .u64 T.t15, .bool cut]] w (SomeBool w) := by
  have hvl := hv.le
  have hbl := hb.le
  go_enter Try.func22, Try.ntmps22
  go_wp2
  any_goals (go_ret; exact someBool _ (below_box _ _))
  go_loop [3, 4] (fun s i => ∃ (k : Nat) (z : Int), k ≤ vn ∧ 0 ≤ z ∧ z ≤ 1048576 ∧ i = .int .i64 k ∧ s = .int .i64 z) (fun _ i => vn - (intOf i).toNat)
  case atStart => exact ⟨0, _, Nat.zero_le _, by omega, by omega, rfl, rfl⟩
  case round =>
    obtain ⟨k0, z0, hk0, hz00, hz10, rfl, rfl⟩ := hrel
    by_cases hlt : k0 < vn
    · obtain ⟨b, off, rfl, hb', hp⟩ := hv.at' k0 hlt
      have hbn : ¬ b = w.heap.size := by omega
      have c0 := hp.c0
      have c2 := hp.c2
      go_wp2
      any_goals (go_ret; exact someBool _ (below_box _ _))
      go_round
      case rel => exact ⟨k0 + 1, _, by omega, by omega, by omega, by go_num, rfl⟩
      case measure => simp [intOf]; omega
    · go_wp2
      any_goals (go_ret; exact someBool _ (below_box _ _))
      go_loop [3, 5] (fun s i => ∃ (k : Nat) (z : Int), k ≤ bn ∧ 0 ≤ z ∧ z ≤ 1048576 ∧ i = .int .i64 k ∧ s = .int .i64 z) (fun _ i => bn - (intOf i).toNat)
      case atStart => exact ⟨0, _, Nat.zero_le _, by omega, by omega, rfl, rfl⟩
      case round =>
        obtain ⟨k1, z1, hk1, hz01, hz11, rfl, rfl⟩ := hrel
        by_cases hlt : k1 < bn
        · obtain ⟨b, off, rfl, hb', hp⟩ := hb.at' k1 hlt
          have hbn : ¬ b = w.heap.size := by omega
          have c0 := hp.c0
          go_wp2
          any_goals (go_ret; exact someBool _ (below_box _ _))
          go_round
          case rel => exact ⟨k1 + 1, _, by omega, by omega, by omega, by go_num, rfl⟩
          case measure => simp [intOf]; omega
        · go_wp2
          all_goals (go_ret; exact someBool _ (below_box _ _))

set_option maxRecDepth 100000 in
set_option maxHeartbeats 4000000 in
theorem zz16 (m : Int) (va : Option Addr) (vn vc : Nat) (ba : Option Addr) (bn bc : Nat) (T : Tops) (cut : Bool) (ps : Nat → Par) (bs : Nat → Bnd) (m1 : Int) (va1 : Option Addr) (vn1 vc1 : Nat) (ba1 : Option Addr) (bn1 bc1 : Nat) (T1 : Tops) (cut1 : Bool) (ps1 : Nat → Par) (bs1 : Nat → Bnd) (m2 : Int) (va2 : Option Addr) (vn2 vc2 : Nat) (ba2 : Option Addr) (bn2 bc2 : Nat) (T2 : Tops) (cut2 : Bool) (ps2 : Nat → Par) (bs2 : Nat → Bnd) (w : World) (hv : IsPars w va vn ps) (hb : IsBnds w ba bn bs) (hv1 : IsPars w va1 vn1 ps1) (hb1 : IsBnds w ba1 bn1 bs1) (hv2 : IsPars w va2 vn2 ps2) (hb2 : IsBnds w ba2 bn2 bs2):
    Calls Try.prog 16 #[.agg #[.int .u64 m, .slice va vn vc, .slice ba bn bc, .int .u64 T.t0, .int .u64 T.t1, .int .u64 T.t2, .int .u64 T.t3, .int .u64 T.t4, .int .u64 T.t5, .int .u64 T.t6, .int .u64 T.t7, .int .u64 T.t8, .int .u64 T.t9, .int .u64 T.t10, .int .u64 T.t11, .int .u64 T.t12, .int .u64 T.t13, .int .u64 T.t14, .int .u64 T.t15, .bool cut], .agg #[.int .u64 m1, .slice va1 vn1 vc1, .slice ba1 bn1 bc1, .int .u64 T1.t0, .int .u64 T1.t1, .int .u64 T1.t2, .int .u64 T1.t3, .int .u64 T1.t4, .int .u64 T1.t5, .int .u64 T1.t6, .int .u64 T1.t7, .int .u64 T1.t8, .int .u64 T1.t9, .int .u64 T1.t10, .int .u64 T1.t11, .int .u64 T1.t12, .int .u64 T1.t13, .int .u64 T1.t14, .int .u64 T1.t15, .bool cut1], .agg #[.int .u64 m2, .slice va2 vn2 vc2, .slice ba2 bn2 bc2, .int .u64 T2.t0, .int .u64 T2.t1, .int .u64 T2.t2, .int .u64 T2.t3, .int .u64 T2.t4, .int .u64 T2.t5, .int .u64 T2.t6, .int .u64 T2.t7, .int .u64 T2.t8, .int .u64 T2.t9, .int .u64 T2.t10, .int .u64 T2.t11, .int .u64 T2.t12, .int .u64 T2.t13, .int .u64 T2.t14, .int .u64 T2.t15, .bool cut2]] w (SomeBool w) := by
  have hvl := hv.le
  have hbl := hb.le
  have hvl1 := hv1.le
  have hbl1 := hb1.le
  have hvl2 := hv2.le
  have hbl2 := hb2.le
  go_enter Try.func16, Try.ntmps16
  go_wp2
  any_goals (go_ret; exact someBool _ (below_box3 _ _ _ _))
  go_loop [7, 8] (fun s i => ∃ (k : Nat) (z : Int), k ≤ vn ∧ 0 ≤ z ∧ z ≤ 1048576 ∧ i = .int .i64 k ∧ s = .int .i64 z) (fun _ i => vn - (intOf i).toNat)
  case atStart => exact ⟨0, _, Nat.zero_le _, by omega, by omega, rfl, rfl⟩
  case round =>
    obtain ⟨k0, z0, hk0, hz00, hz10, rfl, rfl⟩ := hrel
    by_cases hlt : k0 < vn
    · obtain ⟨b, off, rfl, hb', hp⟩ := hv.at' k0 hlt
      have hbn : ¬ b = w.heap.size := by omega
      have c0 : ∀ X Y Z, (((w.alloc X).alloc Y).alloc Z).cell? ⟨b, off + k0 * 7, none⟩ = _ := fun X Y Z => (cell_of_below (below_box3 w X Y Z) hb').trans hp.c0
      have c2 : ∀ X Y Z, (((w.alloc X).alloc Y).alloc Z).cell? ⟨b, off + k0 * 7 + 2, none⟩ = _ := fun X Y Z => (cell_of_below (below_box3 w X Y Z) hb').trans hp.c2
      go_wp2
      any_goals (go_ret; exact someBool _ (below_box3 _ _ _ _))
      go_round
      case rel => exact ⟨k0 + 1, _, by omega, by omega, by omega, by go_num, rfl⟩
      case measure => simp [intOf]; omega
    · go_wp2
      any_goals (go_ret; exact someBool _ (below_box3 _ _ _ _))
      go_loop [7, 9] (fun s i => ∃ (k : Nat) (z : Int), k ≤ bn ∧ 0 ≤ z ∧ z ≤ 1048576 ∧ i = .int .i64 k ∧ s = .int .i64 z) (fun _ i => bn - (intOf i).toNat)
      case atStart => exact ⟨0, _, Nat.zero_le _, by omega, by omega, rfl, rfl⟩
      case round =>
        obtain ⟨k1, z1, hk1, hz01, hz11, rfl, rfl⟩ := hrel
        by_cases hlt : k1 < bn
        · obtain ⟨b, off, rfl, hb', hp⟩ := hb.at' k1 hlt
          have hbn : ¬ b = w.heap.size := by omega
          have c0 : ∀ X Y Z, (((w.alloc X).alloc Y).alloc Z).cell? ⟨b, off + k1 * 6, none⟩ = _ := fun X Y Z => (cell_of_below (below_box3 w X Y Z) hb').trans hp.c0
          go_wp2
          any_goals (go_ret; exact someBool _ (below_box3 _ _ _ _))
          go_round
          case rel => exact ⟨k1 + 1, _, by omega, by omega, by omega, by go_num, rfl⟩
          case measure => simp [intOf]; omega
        · go_wp2
          any_goals (go_ret; exact someBool _ (below_box3 _ _ _ _))
          go_loop [7, 10] (fun s i => ∃ (k : Nat) (z : Int), k ≤ vn1 ∧ 0 ≤ z ∧ z ≤ 1048576 ∧ i = .int .i64 k ∧ s = .int .i64 z) (fun _ i => vn1 - (intOf i).toNat)
          case atStart => exact ⟨0, _, Nat.zero_le _, by omega, by omega, rfl, rfl⟩
          case round =>
            obtain ⟨k2, z2, hk2, hz02, hz12, rfl, rfl⟩ := hrel
            by_cases hlt : k2 < vn1
            · obtain ⟨b, off, rfl, hb', hp⟩ := hv1.at' k2 hlt
              have hbn : ¬ b = w.heap.size := by omega
              have c0 : ∀ X Y Z, (((w.alloc X).alloc Y).alloc Z).cell? ⟨b, off + k2 * 7, none⟩ = _ := fun X Y Z => (cell_of_below (below_box3 w X Y Z) hb').trans hp.c0
              have c2 : ∀ X Y Z, (((w.alloc X).alloc Y).alloc Z).cell? ⟨b, off + k2 * 7 + 2, none⟩ = _ := fun X Y Z => (cell_of_below (below_box3 w X Y Z) hb').trans hp.c2
              go_wp2
              any_goals (go_ret; exact someBool _ (below_box3 _ _ _ _))
              go_round
              case rel => exact ⟨k2 + 1, _, by omega, by omega, by omega, by go_num, rfl⟩
              case measure => simp [intOf]; omega
            · go_wp2
              any_goals (go_ret; exact someBool _ (below_box3 _ _ _ _))
              go_loop [7, 11] (fun s i => ∃ (k : Nat) (z : Int), k ≤ bn1 ∧ 0 ≤ z ∧ z ≤ 1048576 ∧ i = .int .i64 k ∧ s = .int .i64 z) (fun _ i => bn1 - (intOf i).toNat)
              case atStart => exact ⟨0, _, Nat.zero_le _, by omega, by omega, rfl, rfl⟩
              case round =>
                obtain ⟨k3, z3, hk3, hz03, hz13, rfl, rfl⟩ := hrel
                by_cases hlt : k3 < bn1
                · obtain ⟨b, off, rfl, hb', hp⟩ := hb1.at' k3 hlt
                  have hbn : ¬ b = w.heap.size := by omega
                  have c0 : ∀ X Y Z, (((w.alloc X).alloc Y).alloc Z).cell? ⟨b, off + k3 * 6, none⟩ = _ := fun X Y Z => (cell_of_below (below_box3 w X Y Z) hb').trans hp.c0
                  go_wp2
                  any_goals (go_ret; exact someBool _ (below_box3 _ _ _ _))
                  go_round
                  case rel => exact ⟨k3 + 1, _, by omega, by omega, by omega, by go_num, rfl⟩
                  case measure => simp [intOf]; omega
                · go_wp2
                  any_goals (go_ret; exact someBool _ (below_box3 _ _ _ _))
                  go_loop [7, 12] (fun s i => ∃ (k : Nat) (z : Int), k ≤ vn2 ∧ 0 ≤ z ∧ z ≤ 1048576 ∧ i = .int .i64 k ∧ s = .int .i64 z) (fun _ i => vn2 - (intOf i).toNat)
                  case atStart => exact ⟨0, _, Nat.zero_le _, by omega, by omega, rfl, rfl⟩
                  case round =>
                    obtain ⟨k4, z4, hk4, hz04, hz14, rfl, rfl⟩ := hrel
                    by_cases hlt : k4 < vn2
                    · obtain ⟨b, off, rfl, hb', hp⟩ := hv2.at' k4 hlt
                      have hbn : ¬ b = w.heap.size := by omega
                      have c0 : ∀ X Y Z, (((w.alloc X).alloc Y).alloc Z).cell? ⟨b, off + k4 * 7, none⟩ = _ := fun X Y Z => (cell_of_below (below_box3 w X Y Z) hb').trans hp.c0
                      have c2 : ∀ X Y Z, (((w.alloc X).alloc Y).alloc Z).cell? ⟨b, off + k4 * 7 + 2, none⟩ = _ := fun X Y Z => (cell_of_below (below_box3 w X Y Z) hb').trans hp.c2
                      go_wp2
                      any_goals (go_ret; exact someBool _ (below_box3 _ _ _ _))
                      go_round
                      case rel => exact ⟨k4 + 1, _, by omega, by omega, by omega, by go_num, rfl⟩
                      case measure => simp [intOf]; omega
                    · go_wp2
                      any_goals (go_ret; exact someBool _ (below_box3 _ _ _ _))
                      go_loop [7, 13] (fun s i => ∃ (k : Nat) (z : Int), k ≤ bn2 ∧ 0 ≤ z ∧ z ≤ 1048576 ∧ i = .int .i64 k ∧ s = .int .i64 z) (fun _ i => bn2 - (intOf i).toNat)
                      case atStart => exact ⟨0, _, Nat.zero_le _, by omega, by omega, rfl, rfl⟩
                      case round =>
                        obtain ⟨k5, z5, hk5, hz05, hz15, rfl, rfl⟩ := hrel
                        by_cases hlt : k5 < bn2
                        · obtain ⟨b, off, rfl, hb', hp⟩ := hb2.at' k5 hlt
                          have hbn : ¬ b = w.heap.size := by omega
                          have c0 : ∀ X Y Z, (((w.alloc X).alloc Y).alloc Z).cell? ⟨b, off + k5 * 6, none⟩ = _ := fun X Y Z => (cell_of_below (below_box3 w X Y Z) hb').trans hp.c0
                          go_wp2
                          any_goals (go_ret; exact someBool _ (below_box3 _ _ _ _))
                          go_round
                          case rel => exact ⟨k5 + 1, _, by omega, by omega, by omega, by go_num, rfl⟩
                          case measure => simp [intOf]; omega
                        · go_wp2
                          all_goals (go_ret; exact someBool _ (below_box3 _ _ _ _))

end Go.Proofs.Qxb6601324a
