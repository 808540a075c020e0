/-
  FnConditionHoldsComposes: two lists of terms laid one behind the other, plainly; the walk of the law.
-/
import Derived.Test.Qxb6601324aCFit
import Derived.Test.Qxb6601324aCHold
namespace Go.Proofs.Qxb6601324a
open Go.RowKit
set_option linter.unusedSimpArgs false
set_option linter.unusedVariables false

/-! ### Plainly -/
def app (n : Nat) (ps qs : Nat → Trm) : Nat → Trm := fun i => if i < n then ps i else qs (i - n)
theorem app_at (n : Nat) (ps qs : Nat → Trm) (m : Nat) : app n ps qs (n + m) = qs m := by
  unfold app; rw [if_neg (by omega), Nat.add_sub_cancel_left]
def tOp (o : Int) : Trm := ⟨o, ⟨#[]⟩, 0, 0⟩
theorem flatT_congr (ps qs : Nat → Trm) : ∀ n, (∀ i, i < n → ps i = qs i) → flatT ps n = flatT qs n
  | 0, _ => rfl
  | n + 1, h => by rw [flatT_succ, flatT_succ, flatT_congr ps qs n (fun i hi => h i (by omega)), h n (by omega)]
theorem flatT_app (n : Nat) (ps qs : Nat → Trm) : ∀ m, flatT (app n ps qs) (n + m) = flatT ps n ++ flatT qs m
  | 0 => by rw [Nat.add_zero, flatT_congr (app n ps qs) ps n (fun i hi => by simp [app, hi])]; simp [flatT]
  | m + 1 => by
    rw [← Nat.add_assoc, flatT_succ, flatT_succ, flatT_app n ps qs m, List.append_assoc]
    rw [app_at]
theorem dep_congr (ps qs : Nat → Trm) : ∀ n, (∀ i, i < n → ps i = qs i) → dep ps n = dep qs n
  | 0, _ => rfl
  | n + 1, h => by
    show (dep ps n).bind _ = (dep qs n).bind _
    rw [dep_congr ps qs n (fun i hi => h i (by omega)), h n (by omega)]
theorem stk_congr (g : ByteArray → Option (Int × Int)) (ps qs : Nat → Trm) : ∀ n, (∀ i, i < n → ps i = qs i) → stk g ps n = stk g qs n
  | 0, _ => rfl
  | n + 1, h => by
    show stepT g _ (stk g ps n) = stepT g _ (stk g qs n)
    rw [stk_congr g ps qs n (fun i hi => h i (by omega)), h n (by omega)]
theorem stepD_add {op : Int} {e e' : Nat} (d : Nat) (h : stepD op e = some e') : stepD op (d + e) = some (d + e') := by
  unfold stepD at h ⊢
  by_cases o1 : op < 1
  · rw [if_pos o1] at h; cases h
  rw [if_neg o1] at h ⊢
  by_cases o9 : 9 < op
  · rw [if_pos o9] at h; cases h
  rw [if_neg o9] at h ⊢
  by_cases e7 : op = 7
  · rw [if_pos e7] at h ⊢
    by_cases d2 : e < 2
    · rw [if_pos d2] at h; cases h
    · rw [if_neg d2] at h; cases h
      rw [if_neg (by omega)]; congr 1; omega
  rw [if_neg e7] at h ⊢
  by_cases e8 : op = 8
  · rw [if_pos e8] at h ⊢
    by_cases d2 : e < 2
    · rw [if_pos d2] at h; cases h
    · rw [if_neg d2] at h; cases h
      rw [if_neg (by omega)]; congr 1; omega
  rw [if_neg e8] at h ⊢
  by_cases e9 : op = 9
  · rw [if_pos e9] at h ⊢
    by_cases d1 : e < 1
    · rw [if_pos d1] at h; cases h
    · rw [if_neg d1] at h; cases h
      rw [if_neg (by omega)]
  rw [if_neg e9] at h ⊢
  cases h
  rfl
theorem stepT_app (g : ByteArray → Option (Int × Int)) (t : Trm) (l r : List Bool) {e' : Nat} (h : stepD t.op l.length = some e') : stepT g t (l ++ r) = stepT g t l ++ r := by
  unfold stepD at h
  unfold stepT
  by_cases o1 : t.op < 1
  · rw [if_pos o1] at h; cases h
  rw [if_neg o1] at h
  by_cases o9 : 9 < t.op
  · rw [if_pos o9] at h; cases h
  rw [if_neg o9] at h
  by_cases e7 : t.op = 7
  · rw [if_pos e7] at h
    rw [if_pos e7, if_pos e7]
    match l, h with
    | b :: a :: s, _ => rfl
    | [x], h => simp at h
    | [], h => simp at h
  rw [if_neg e7] at h
  rw [if_neg e7, if_neg e7]
  by_cases e8 : t.op = 8
  · rw [if_pos e8] at h
    rw [if_pos e8, if_pos e8]
    match l, h with
    | b :: a :: s, _ => rfl
    | [x], h => simp at h
    | [], h => simp at h
  rw [if_neg e8] at h
  rw [if_neg e8, if_neg e8]
  by_cases e9 : t.op = 9
  · rw [if_pos e9] at h
    rw [if_pos e9, if_pos e9]
    match l, h with
    | a :: s, _ => rfl
    | [], h => simp at h
  rw [if_neg e9, if_neg e9]
  rfl
theorem dep_app (n : Nat) (ps qs : Nat → Trm) {d : Nat} (h : dep ps n = some d) : ∀ m e, dep qs m = some e → dep (app n ps qs) (n + m) = some (d + e)
  | 0, e, he => by
    cases he
    rw [Nat.add_zero, dep_congr (app n ps qs) ps n (fun i hi => by simp [app, hi])]; exact h
  | m + 1, e, he => by
    obtain ⟨e0, he0⟩ := dep_some_of he (Nat.le_succ m)
    have hs := step_of_dep he0 he
    have ih := dep_app n ps qs h m e0 he0
    show dep (app n ps qs) ((n + m) + 1) = _
    refine dep_succ_some ih ?_
    rw [app_at]
    exact stepD_add d hs
theorem stk_app (g : ByteArray → Option (Int × Int)) (n : Nat) (ps qs : Nat → Trm) : ∀ m e, dep qs m = some e → stk g (app n ps qs) (n + m) = stk g qs m ++ stk g ps n
  | 0, e, he => by
    rw [Nat.add_zero, stk_congr g (app n ps qs) ps n (fun i hi => by simp [app, hi])]; rfl
  | m + 1, e, he => by
    obtain ⟨e0, he0⟩ := dep_some_of he (Nat.le_succ m)
    have hs := step_of_dep he0 he
    have ih := stk_app g n ps qs m e0 he0
    show stepT g (app n ps qs (n + m)) (stk g (app n ps qs) (n + m)) = stepT g (qs m) (stk g qs m) ++ _
    rw [app_at, ih]
    exact stepT_app g (qs m) _ _ (by rw [stk_length g qs m e0 he0]; exact hs)
/-- One operator more at the end. -/
def snoc (n : Nat) (ps : Nat → Trm) (o : Int) : Nat → Trm := app n ps (fun _ => tOp o)
theorem snoc_at (n : Nat) (ps : Nat → Trm) (o : Int) : snoc n ps o n = tOp o := by simp [snoc, app]
theorem flatT_snoc (n : Nat) (ps : Nat → Trm) (o : Int) : flatT (snoc n ps o) (n + 1) = flatT ps n ++ (tOp o).cells := by
  unfold snoc
  rw [flatT_app n ps _ 1]
  simp [flatT]
theorem dep_snoc (n : Nat) (ps : Nat → Trm) (o : Int) {d d' : Nat} (h : dep ps n = some d) (hs : stepD o d = some d') : dep (snoc n ps o) (n + 1) = some d' := by
  refine dep_succ_some (d := d) ?_ (by rw [snoc_at]; exact hs)
  rw [dep_congr (snoc n ps o) ps n (fun i hi => by simp [snoc, app, hi])]; exact h
theorem stk_snoc (g : ByteArray → Option (Int × Int)) (n : Nat) (ps : Nat → Trm) (o : Int) : stk g (snoc n ps o) (n + 1) = stepT g (tOp o) (stk g ps n) := by
  show stepT g (snoc n ps o n) (stk g (snoc n ps o) n) = _
  rw [snoc_at, stk_congr g (snoc n ps o) ps n (fun i hi => by simp [snoc, app, hi])]
theorem stk_one (g : ByteArray → Option (Int × Int)) {ps : Nat → Trm} {n : Nat} (h : dep ps n = some 1) : stk g ps n = [hold g ps n] := by
  have hl := stk_length g ps n 1 h
  match hs : stk g ps n with
  | [x] => unfold hold; rw [hs]; rfl
  | [] => rw [hs] at hl; simp at hl
  | _ :: _ :: _ => rw [hs] at hl; simp at hl
theorem hold_not (g : ByteArray → Option (Int × Int)) {ps : Nat → Trm} {n : Nat} (h : dep ps n = some 1) : hold g (snoc n ps 9) (n + 1) = !hold g ps n := by
  have e : stk g (snoc n ps 9) (n + 1) = [!hold g ps n] := by rw [stk_snoc, stk_one g h]; simp [stepT, tOp]
  generalize hold g ps n = x at e ⊢
  unfold hold; rw [e]; rfl
theorem hold_and (g : ByteArray → Option (Int × Int)) {ps qs : Nat → Trm} {n m : Nat} (h : dep ps n = some 1) (h' : dep qs m = some 1) : hold g (snoc (n + m) (app n ps qs) 7) (n + m + 1) = (hold g ps n && hold g qs m) := by
  have e : stk g (snoc (n + m) (app n ps qs) 7) (n + m + 1) = [hold g ps n && hold g qs m] := by rw [stk_snoc, stk_app g n ps qs m 1 h', stk_one g h, stk_one g h']; simp [stepT, tOp]
  generalize (hold g ps n && hold g qs m) = x at e ⊢
  unfold hold; rw [e]; rfl
theorem hold_or (g : ByteArray → Option (Int × Int)) {ps qs : Nat → Trm} {n m : Nat} (h : dep ps n = some 1) (h' : dep qs m = some 1) : hold g (snoc (n + m) (app n ps qs) 8) (n + m + 1) = (hold g ps n || hold g qs m) := by
  have e : stk g (snoc (n + m) (app n ps qs) 8) (n + m + 1) = [hold g ps n || hold g qs m] := by rw [stk_snoc, stk_app g n ps qs m 1 h', stk_one g h, stk_one g h']; simp [stepT, tOp]
  generalize (hold g ps n || hold g qs m) = x at e ⊢
  unfold hold; rw [e]; rfl
theorem dep_not {ps : Nat → Trm} {n : Nat} (h : dep ps n = some 1) : dep (snoc n ps 9) (n + 1) = some 1 := dep_snoc n ps 9 h (by decide)
theorem dep_two {ps qs : Nat → Trm} {n m : Nat} (h : dep ps n = some 1) (h' : dep qs m = some 1) (o : Int) (ho : stepD o 2 = some 1) : dep (snoc (n + m) (app n ps qs) o) (n + m + 1) = some 1 :=
  dep_snoc (n + m) (app n ps qs) o (dep_app n ps qs h m 1 h') ho

/-! ### Memory -/
theorem flatT_one (ps : Nat → Trm) (n : Nat) : ∀ u ∈ flatT ps n, u.oneCell' = true := by
  intro u hu
  obtain ⟨i, _, hi⟩ := List.mem_flatMap.1 hu
  simp [Trm.cells] at hi
  rcases hi with rfl | rfl | rfl | rfl <;> rfl
theorem trms_cells {w : World} {a : Option Addr} {n : Nat} {ps : Nat → Trm} (h : IsTrms w a n ps) : ∀ ad, a = some ad → ∀ j u, (flatT ps n)[j]? = some u → w.cell? (ad.add j) = some u := by
  intro ad had j u hu
  have hj : j < n * 4 := by rw [← flatT_length ps n]; exact (List.getElem?_eq_some_iff.1 hu).1
  obtain ⟨b, off, e, _, hp⟩ := h.at' (j / 4) (by omega)
  rw [had] at e
  cases e
  have hat := flatT_at ps n (j / 4) (j % 4) (by omega) (by omega)
  rw [show j / 4 * 4 + j % 4 = j by omega, hu] at hat
  have hadd : (⟨b, off, none⟩ : Addr).add j = ⟨b, off + j / 4 * 4 + j % 4, none⟩ := by
    unfold Addr.add
    split
    · rename_i h0; subst h0; simp
    · simp; omega
  rw [hadd]
  have h4 : j % 4 < 4 := by omega
  generalize j % 4 = q at hat h4 ⊢
  obtain ⟨c0, c1, c2, c3⟩ := hp
  match q, h4 with
  | 0, _ => simp [Trm.cells] at hat; rw [hat]; exact c0
  | 1, _ => simp [Trm.cells] at hat; rw [hat]; exact c1
  | 2, _ => simp [Trm.cells] at hat; rw [hat]; exact c2
  | 3, _ => simp [Trm.cells] at hat; rw [hat]; exact c3
theorem info35 : (Try.prog.info? 35).map (fun i => (i.zero, i.size, i.bytes)) = some (some (.agg #[.int .u8 0, .string ⟨#[]⟩, .int .i64 0, .int .u64 0]), 4, 40) := by kernel_rfl
theorem cells_new1 (wr : World) (l : List Value) (t : TypeId) (j : Nat) (u : Value) (hj : l[j]? = some u) : (wr.alloc (.cells l.toArray t)).cell? ((⟨wr.heap.size, 0, none⟩ : Addr).add j) = some u := by
  have hadd : (⟨wr.heap.size, 0, none⟩ : Addr).add j = ⟨wr.heap.size, j, none⟩ := by unfold Addr.add; split <;> simp_all
  rw [hadd, cell_of_row _ _ _ _ _ _ (Bx.new wr t l.toArray)]
  simpa using hj
/-- A list under way: the row at g, new since W, owns the cells xs. -/
structure Lst (W : World) (cap k : Nat) (xs : List Value) (w' : World) : Prop where
  bel : Below W.heap.size W w'
  own : w'.ownsRow W.heap.size 35 4 (.slice (some ⟨W.heap.size, 0, none⟩) k cap) k xs
theorem Lst.made {W w1 : World} {cap : Nat} (hown : w1.ownsRow W.heap.size 35 4 (.slice (some ⟨W.heap.size, 0, none⟩) 0 cap) 0 []) (hg : W.grownBy w1 none) : Lst W cap 0 [] w1 :=
  ⟨grown_below' hg (Nat.le_refl _) (by simp), hown⟩
theorem Lst.lt {W w' : World} {cap k : Nat} {xs : List Value} (h : Lst W cap k xs w') : W.heap.size < w'.heap.size := by
  obtain ⟨_, h | ⟨g, cap, cur, hv, _, hh, _⟩⟩ := h.own
  · simp at h
  · simp only [Value.slice.injEq, Option.some.injEq, Addr.mk.injEq, true_and, and_true] at hv
    obtain ⟨rfl, _⟩ := hv
    exact Bx.lt (t := 35) (cs := cur) hh
theorem Lst.app {W w' w2 : World} {cap k m : Nat} {xs ys : List Value} (h : Lst W cap k xs w') (hown : w2.ownsRow W.heap.size 35 4 (.slice (some ⟨W.heap.size, 0, none⟩) (k + m) cap) (k + m) (xs ++ ys)) (hg : w'.grownBy w2 (some W.heap.size)) : Lst W cap (k + m) (xs ++ ys) w2 :=
  ⟨h.bel.trans (grown_below' hg (Nat.le_of_lt h.lt) (by intro k hk; simp at hk; omega)), hown⟩
theorem Lst.box {W w' : World} {cap k : Nat} {xs : List Value} (h : Lst W cap k xs w') (o : Obj) : Lst W cap k xs (w'.alloc o) :=
  ⟨h.bel.alloc h.bel.size o, h.own.alloc o⟩
theorem hold10 (a : Option Addr) (n c : Nat) (ts : Nat → Trm) (m : Option Nat) (g : ByteArray → Option (Int × Int)) (d : Nat) (w : World) (h : IsTrms w a n ts) (hn : n ≤ 256) (hd : dep ts n = some d) (hg : Looks w m g) :
    Calls Try.prog 10 #[.agg #[.slice a n c], .map m] w fun e w' => e = .returned (.bool (hold g ts n)) ∧ Below w.heap.size w w' := by
  have hb := below_box w (.cells #[.slice a n c] 28)
  have HC := hold27 a n c ts m g d _ (h.below hb) hn hd (hg.below hb)
  clear hd
  generalize hold g ts n = r at HC ⊢
  go_enter Try.func10, Try.ntmps10
  go_wp2_with (go_at_call 27; refine HC.mono ?_; rintro e w' ⟨rfl, hb2⟩)
  go_ret
  exact ⟨rfl, hb.trans (hb2.mono hb.size)⟩
end Go.Proofs.Qxb6601324a
