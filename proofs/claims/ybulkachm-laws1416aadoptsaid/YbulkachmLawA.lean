import Derived.Test.YbulkachmAdopt
import Derived.Deep.LoopGhost
import Derived.LoopN
namespace Go.Proofs.Ybulkachm.Adopt
open Go.RowKit Go.PtrMap

/-- The slice's elements, as the walk reads them. -/
def Row (w : World) (a : Option Addr) (len : Nat) (z : Nat → Int) : Prop :=
  0 < len → ∃ b off, a = some ⟨b, off, none⟩ ∧ b < w.heap.size ∧ ∀ j, j < len → w.cell? ⟨b, off + j, none⟩ = some (.int .u8 (z j)) ∧ 0 ≤ z j ∧ z j ≤ 255

theorem neq38_same (b : Nat) (w : World) : (binOp .neq 38 (ptr b) (ptr b)).run Yba.prog w = .ok (.bool false) w := by
  obtain ⟨j, hj⟩ : ∃ j, Yba.prog.info? 47 = some j := Option.isSome_iff_exists.1 (by kernel_rfl)
  have h : ∀ d : Nat, (Op.equalIn (d + 1) 38 (ptr b) (ptr b)).run Yba.prog w = .ok true w := fun d => by
    simp [Op.equalIn, run_underlying Yba.underlying38, sizeOf, typeInfo, hj, run_sameAddr_same]
  simp only [binOp]
  simp [Op.equal, Op.maxDepth, h 9999]
theorem neq40_nil (r : Option Nat) (w : World) : (binOp .neq 40 (.map r) (.map none)).run Yba.prog w = .ok (.bool (!r.isNone)) w := run_neq_map_nil w _ _ _ r Yba.underlying40

/-- The pool of four children, from block N on. -/
structure Pool (N : Nat) (w : World) : Prop where
  pool : w.heap[N]? = some (.cells #[ptr (N + 1), ptr (N + 1 + 1), ptr (N + 1 + 1 + 1), ptr (N + 1 + 1 + 1 + 1)] 24)
  kid : ∀ q, q < 4 → IsChild w (N + 1 + q)

theorem Pool.cell {N : Nat} {w : World} (h : Pool N w) (q : Nat) (hq : q < 4) : w.cell? ⟨N, q, none⟩ = some (ptr (N + 1 + q)) := by
  refine cellOf h.pool q _ ?_
  match q, hq with
  | 0, _ => rfl
  | 1, _ => rfl
  | 2, _ => rfl
  | 3, _ => rfl

theorem Pool.of {N : Nat} {w w' : World} (h : Pool N w) (hk : ∀ k, N ≤ k → k < N + 5 → w'.heap[k]? = w.heap[k]?) : Pool N w' :=
  ⟨by rw [hk N (by omega) (by omega)]; exact h.pool, fun q hq => by
    obtain ⟨c, hc⟩ := h.kid q hq
    exact ⟨c, by rw [hk (N + 1 + q) (by omega) (by omega)]; exact hc⟩⟩

theorem at_new (w : World) (o : Obj) (k : Nat) (h : k = w.heap.size) : (w.alloc o).heap[k]? = some o := by
  subst h; exact (MapKept.heap_alloc w o).1
theorem at_old (w : World) (o : Obj) (k : Nat) (h : k < w.heap.size) : (w.alloc o).heap[k]? = w.heap[k]? := Below.heap_alloc w o k h

theorem eight (w : World) (o0 o1 o2 o3 o4 o5 o6 o7 : Obj) {W : World} (hW : W = (((((((w.alloc o0).alloc o1).alloc o2).alloc o3).alloc o4).alloc o5).alloc o6).alloc o7) :
    W.heap[w.heap.size]? = some o0 ∧ W.heap[w.heap.size + 1]? = some o1 ∧ W.heap[w.heap.size + 1 + 1]? = some o2 ∧ W.heap[w.heap.size + 1 + 1 + 1]? = some o3 ∧ W.heap[w.heap.size + 1 + 1 + 1 + 1]? = some o4 ∧
      W.heap[w.heap.size + 1 + 1 + 1 + 1 + 1]? = some o5 ∧ W.heap[w.heap.size + 1 + 1 + 1 + 1 + 1 + 1]? = some o6 ∧ W.heap[w.heap.size + 1 + 1 + 1 + 1 + 1 + 1 + 1]? = some o7 ∧ W.heap.size = w.heap.size + 8 ∧ Below w.heap.size w W := by
  subst hW
  refine ⟨?_, ?_, ?_, ?_, ?_, ?_, ?_, ?_, ?_, ?_⟩
  · iterate 7 rw [at_old _ _ _ (by simp only [World.size_alloc]; omega)]
    exact at_new _ _ _ rfl
  · iterate 6 rw [at_old _ _ _ (by simp only [World.size_alloc]; omega)]
    exact at_new _ _ _ (by simp)
  · iterate 5 rw [at_old _ _ _ (by simp only [World.size_alloc]; omega)]
    exact at_new _ _ _ (by simp)
  · iterate 4 rw [at_old _ _ _ (by simp only [World.size_alloc]; omega)]
    exact at_new _ _ _ (by simp)
  · iterate 3 rw [at_old _ _ _ (by simp only [World.size_alloc]; omega)]
    exact at_new _ _ _ (by simp)
  · iterate 2 rw [at_old _ _ _ (by simp only [World.size_alloc]; omega)]
    exact at_new _ _ _ (by simp)
  · rw [at_old _ _ _ (by simp only [World.size_alloc]; omega)]
    exact at_new _ _ _ (by simp)
  · exact at_new _ _ _ (by simp)
  · simp
  · refine Below.alloc (Below.alloc (Below.alloc (Below.alloc (Below.alloc (Below.alloc (Below.alloc (Below.alloc (Below.refl _ _) ?_ _) ?_ _) ?_ _) ?_ _) ?_ _) ?_ _) ?_ _) ?_ _
    all_goals (first | omega | (simp only [World.size_alloc]; omega))

theorem pool_made {N : Nat} {W : World} (h0 : W.heap[N]? = some (.cells #[ptr (N + 1), ptr (N + 1 + 1), ptr (N + 1 + 1 + 1), ptr (N + 1 + 1 + 1 + 1)] 24)) (h1 : W.heap[N + 1]? = some (.cells #[.int .i64 1] 26)) (h2 : W.heap[N + 1 + 1]? = some (.cells #[.int .i64 2] 26))
    (h3 : W.heap[N + 1 + 1 + 1]? = some (.cells #[.int .i64 3] 26)) (h4 : W.heap[N + 1 + 1 + 1 + 1]? = some (.cells #[.int .i64 4] 26)) : Pool N W := by
  refine ⟨h0, fun q hq => ?_⟩
  match q, hq with
  | 0, _ => exact ⟨_, h1⟩
  | 1, _ => exact ⟨_, h2⟩
  | 2, _ => exact ⟨_, h3⟩
  | 3, _ => exact ⟨_, h4⟩

set_option maxRecDepth 100000 in
set_option maxHeartbeats 1600000 in
theorem law_ended (a : Option Addr) (len cap : Nat) (z : Nat → Int) (pk : Int) (w : World) (hl : len ≤ 1024) (hrow : Row w a len z) :
    Calls Yba.prog 3 #[.slice a len cap, .int .i64 pk, .bool true] w fun e w' => e = .returned (.bool true) ∧ Below w.heap.size w w' := by
  have HR : Hid (Row w a len z) := hrow
  clear hrow
  go_enter Yba.func3, Yba.ntmps3
  go_wp2
  refine wp_loop_rounds 5 ?_
  rw [rounds_succ]
  go_wp2
  rw [rounds_succ]
  go_wp2
  rw [rounds_succ]
  go_wp2
  rw [rounds_succ]
  go_wp2
  rw [rounds_succ]
  go_wp2_with fail
  go_loopg [47] len (fun g i wr => ∃ k : Nat, g + k = len ∧ i = .int .i64 k ∧ Pool w.heap.size wr ∧ wr.heap[w.heap.size + 1 + 1 + 1 + 1 + 1]? = some (scopeObj 0 (ptr (w.heap.size + 1 + 1 + 1 + 1 + 1 + 1)) (.map none) pk) ∧ Below w.heap.size w wr)
  case atStart =>
    obtain ⟨h0, h1, h2, h3, h4, h5, h6, h7, hz, hb⟩ := eight w _ _ _ _ _ _ _ _ rfl
    exact ⟨0, rfl, rfl, pool_made h0 h1 h2 h3 h4, h5, hb⟩
  case round =>
    obtain ⟨k, hg, rfl, hpool, hsc, hbel⟩ := hrel
    by_cases hlt : k < len
    · obtain ⟨b, off, rfl, hb, hcells⟩ := HR.out (by omega)
      obtain ⟨hc0, hz0, hz1⟩ := hcells k hlt
      have hc : wr.cell? ⟨b, off + k, none⟩ = some (.int .u8 (z k)) := by rw [hbel.cell (p := ⟨b, off + k, none⟩) hb]; exact hc0
      have hpc := hpool.cell (z k % 4).toNat (by omega)
      clear hcells hc0
      have HB : Hid (Below w.heap.size w wr) := hbel
      have HP : Hid (Pool w.heap.size wr) := hpool
      clear hbel hpool
      have hn38 := neq38_same (w.heap.size + 1 + 1 + 1 + 1 + 1 + 1)
      have hn40 := neq40_nil none
      go_wp2_with fail
      refine (adopt_ended (w.heap.size + 1 + 1 + 1 + 1 + 1) (w.heap.size + 1 + 1 + 1 + 1 + 1 + 1) _ pk (.map none) wr hsc).mono ?_
      rintro e w1 ⟨rfl, hw1⟩
      have hs1 : w1.heap[w.heap.size + 1 + 1 + 1 + 1 + 1]? = some (scopeObj 0 (ptr (w.heap.size + 1 + 1 + 1 + 1 + 1 + 1)) (.map none) pk) := by
        rw [hw1]
        have h1 := heap_setCell_at hsc 3 (.int .i32 1)
        exact heap_setCell_at h1 3 (.int .i32 0)
      have ho1 : ∀ k, k ≠ w.heap.size + 1 + 1 + 1 + 1 + 1 → w1.heap[k]? = wr.heap[k]? := fun k hne => by
        rw [hw1, Below.heap_setCell _ _ _ k hne, Below.heap_setCell _ _ _ k hne]
      have HB1 : Hid (Below w.heap.size w w1) := by
        show Below _ _ _
        rw [hw1]
        exact (HB.out.setCell (by simp; omega) _).setCell (by simp; omega) _
      have HP1 : Hid (Pool w.heap.size w1) := HP.out.of fun k h1 h2 => ho1 k (by omega)
      have d5 := cellOf hs1 5 (ptr (w.heap.size + 1 + 1 + 1 + 1 + 1 + 1)) rfl
      have d6 := cellOf hs1 6 (.map none) rfl
      have d8 := cellOf hs1 8 (.int .i64 pk) rfl
      have HS1 : Hid _ := hs1
      clear hs1 hw1 ho1 hsc hc hpc
      go_wp2
      go_roundg (gk - 1)
      case measure => omega
      case rel => exact ⟨k + 1, by omega, by go_num, HP1.out, HS1.out, HB1.out⟩
    · go_wp2
      go_ret
      exact ⟨rfl, hbel⟩
end Go.Proofs.Ybulkachm.Adopt
