import Derived.Test.YbulkacksAtoms
import Derived.Test.YbulkacksPtrMap
namespace Go.Proofs.Ybulkacks.Q
open Go.RowKit Go.PtrMap

theorem cellOf {w : World} {b i : Nat} {c : Array Value} {t : TypeId} {v : Value} (h : w.heap[b]? = some (.cells c t (0, 0))) (hv : c[i]? = some v) : w.cell? ⟨b, i, none⟩ = some v := by
  simp [World.cell?, h, hv]
theorem frozenOf {w : World} {b : Nat} (i : Nat) {c : Array Value} {t : TypeId} (h : w.heap[b]? = some (.cells c t (0, 0))) : w.frozen? ⟨b, i, none⟩ = false := by
  simp [World.frozen?, h]
theorem heap_setCell_at {w : World} {b i : Nat} {c : Array Value} {t : TypeId} (v : Value) (h : w.heap[b]? = some (.cells c t (0, 0))) : (w.setCell ⟨b, i, none⟩ v).heap[b]? = some (.cells (c.setIfInBounds i v) t (0, 0)) := by
  simp [World.setCell, Array.getElem?_modify, h]
theorem ltOf {w : World} {b : Nat} {o : Obj} (h : w.heap[b]? = some o) : b < w.heap.size := (Array.getElem?_eq_some_iff.1 h).1

theorem info49 : (Yba.prog.info? 49).map (fun i => (i.zero, i.size, i.bytes)) = some (some (.pointer none), 1, 8) := by kernel_rfl
theorem info3 : (Yba.prog.info? 3).map (fun i => (i.zero, i.size, i.bytes)) = some (some (.int .i64 0), 1, 8) := by kernel_rfl

theorem run_makeMap_hint (k : IntKind) (h : Int) (w : World) : (Instr.makeMap 24 (some (.int k h))).run Yba.prog w = .ok (.map (some w.heap.size)) (w.alloc (.map #[] 0)) := by
  simp [Instr.makeMap, run_underlying Yba.underlying24, asInt, asIntOf]

theorem cell_set_far {w : World} {b i c j : Nat} {v u : Value} (hne : c ≠ b) (h : w.cell? ⟨c, j, none⟩ = some u) : (w.setCell ⟨b, i, none⟩ v).cell? ⟨c, j, none⟩ = some u := by
  rw [← h]
  exact World.cell?_of_block (w := w) (Deep.blk_setCell_other _ _ _ _ hne)

/-- Block b is a stream. -/
def IsStream (w : World) (b : Nat) : Prop := ∃ c, w.heap[b]? = some (.cells c 60 (0, 0))

theorem pointee49 : ∃ j, Yba.prog.info? 60 = some j ∧ j.size ≠ 0 := by
  have h : (Yba.prog.info? 60).any (fun j => j.size != 0) = true := by kernel_rfl
  cases hx : Yba.prog.info? 60 with
  | none => rw [hx] at h; cases h
  | some j => rw [hx] at h; exact ⟨j, rfl, by simpa using h⟩

theorem keys49 (w : World) : Keys Yba.prog 49 ptr (IsStream w) w := by
  obtain ⟨j, hj, hs⟩ := pointee49
  constructor
  · intro b c hb hc'
    by_cases e : b = c
    · subst e
      have h : ∀ d : Nat, (Op.equalIn (d + 1) 49 (ptr b) (ptr b)).run Yba.prog w = .ok true w := fun d => by
        simp [Op.equalIn, run_underlying Yba.underlying49, sizeOf, typeInfo, hj, run_sameAddr_same]
      simpa [Op.equal, Op.maxDepth] using h 9999
    · obtain ⟨cb, hb⟩ := hb
      obtain ⟨cc, hc'⟩ := hc'
      have hne : (⟨b, 0, none⟩ : Addr) ≠ ⟨c, 0, none⟩ := fun h => e (congrArg Addr.block h)
      have h : ∀ d : Nat, (Op.equalIn (d + 1) 49 (ptr b) (ptr c)).run Yba.prog w = .ok false w := fun d => by
        simp [Op.equalIn, run_underlying Yba.underlying49, sizeOf, typeInfo, hj, hs, run_sameAddr_other w hne hb hc']
      have e' : (b == c) = false := by simpa using e
      rw [e']
      simpa [Op.equal, Op.maxDepth] using h 9999
  · intro em b _
    have h : ∀ n, (Instr.checkKey em (n + 1) 49 (ptr b)).run Yba.prog w = .ok () w := fun n => by
      simp [Instr.checkKey, run_underlying Yba.underlying49]
    exact h 9999
  · exact ⟨_, Yba.underlying49, fun b c => by simp [Instr.sameNow]⟩
  · intro b
    simp [Instr.sameBits]

/-! ### The objects -/
abbrev boxObj (a : Option Addr) (n cap : Nat) : Obj := .cells #[.slice a n cap] 22
abbrev inObj (M : Nat) : Obj := .cells #[.int .u64 0, .int .i64 0, .pointer none, .pointer none, .int .i32 0, .int .u32 0, .nilIface, .int .u32 0, .int .u32 0, .int .u64 0, .pointer none, .pointer none, .int .u64 0, .bool false, .map (some M), .int .i64 0, .slice none 0 0, .int .i64 0] 47
abbrev listObj (R n : Nat) : Obj := .cells #[.slice (some ⟨R, 0, none⟩) n n] 48
abbrev streamObj (I : Nat) (i last : Int) (u : Int) : Obj := .cells #[.nilIface, ptr I, .int .i64 i, .int .i64 last, .int .u32 u, .slice none 0 0, .bool false] 60

/-- The map's entries: the streams' blocks, each with its stamp. -/
def keysOf (N k : Nat) : List (Nat × Nat) := (List.range k).map fun j => (N + 5 + j, j)

theorem keysOf_succ (N k : Nat) : keysOf N (k + 1) = keysOf N k ++ [(N + 5 + k, k)] := by simp [keysOf, List.range_succ]
theorem keysOf_has (N k : Nat) : has (keysOf N k) (N + 5 + k) = false := by
  simp [has, keysOf]
  omega
theorem keysOf_mem {N k : Nat} {p : Nat × Nat} (h : p ∈ keysOf N k) : ∃ j, j < k ∧ p = (N + 5 + j, j) := by
  simp only [keysOf, List.mem_map, List.mem_range] at h
  obtain ⟨j, hj, rfl⟩ := h
  exact ⟨j, hj, rfl⟩

/-- The memory that the law builds: N the heap's size at its start; km streams in the map, kr in the list, ks made, stream j reading 'so j'. -/
structure St (w : World) (a : Option Addr) (n cap km kr ks : Nat) (so : Nat → Obj) (wx : World) : Prop where
  box : wx.heap[w.heap.size]? = some (boxObj a n cap)
  map : wx.heap[w.heap.size + 1]? = some (.map (ents ptr (.agg #[]) (keysOf w.heap.size km)).toArray km)
  inn : wx.heap[w.heap.size + 1 + 1]? = some (inObj (w.heap.size + 1))
  row : wx.rowIs (w.heap.size + 1 + 1 + 1) 49 n (fun j => if j < kr then ptr (w.heap.size + 5 + j) else .pointer none)
  lst : wx.heap[w.heap.size + 1 + 1 + 1 + 1]? = some (listObj (w.heap.size + 1 + 1 + 1) n)
  str : ∀ j, j < ks → wx.heap[w.heap.size + 5 + j]? = some (so j)
  below : Below w.heap.size w wx

section
variable {w : World} {a : Option Addr} {n cap km kr ks : Nat} {so : Nat → Obj} {wx wy : World}

/-- Nothing of it has turned. -/
theorem St.keep (h : St w a n cap km kr ks so wx) (hb : ∀ b, b < w.heap.size + 5 + ks → wy.heap[b]? = wx.heap[b]?) (hB : Below w.heap.size w wy) : St w a n cap km kr ks so wy :=
  ⟨(hb _ (by omega)).trans h.box, (hb _ (by omega)).trans h.map, (hb _ (by omega)).trans h.inn, h.row.of_block (hb _ (by omega)), (hb _ (by omega)).trans h.lst, fun j hj => (hb _ (by omega)).trans (h.str j hj), hB⟩

theorem St.drewN (h : St w a n cap km kr ks so wx) (m : Nat) : St w a n cap km kr ks so (wx.drewN m) := ⟨h.box, h.map, h.inn, h.row, h.lst, h.str, ⟨h.below.os, h.below.tape, h.below.output, h.below.size, h.below.block⟩⟩
theorem St.drew (h : St w a n cap km kr ks so wx) : St w a n cap km kr ks so wx.drew := ⟨h.box, h.map, h.inn, h.row, h.lst, h.str, h.below.drew⟩

theorem St.sizes (h : St w a n cap km kr ks so wx) : w.heap.size + 5 + ks ≤ wx.heap.size := by
  have h4 := ltOf h.lst
  rcases Nat.eq_zero_or_pos ks with rfl | h0
  · omega
  · have := ltOf (h.str (ks - 1) (by omega))
    omega

theorem St.alloc (h : St w a n cap km kr ks so wx) (o : Obj) : St w a n cap km kr ks so (wx.alloc o) :=
  h.keep (fun b hb => Deep.blk_alloc_lt _ _ _ (by have := h.sizes; omega)) (h.below.alloc h.below.size _)

/-- One stream more. -/
theorem St.made (h : St w a n cap km kr ks so wx) (hs : wx.heap.size = w.heap.size + 5 + ks) (o : Obj) : St w a n cap km kr (ks + 1) (fun j => if j = ks then o else so j) (wx.alloc o) := by
  have h' := h.alloc o
  refine ⟨h'.box, h'.map, h'.inn, h'.row, h'.lst, fun j hj => ?_, h'.below⟩
  by_cases e : j = ks
  · subst e
    rw [← hs, Deep.blk_alloc_new]
    simp
  · rw [h'.str j (by omega)]
    simp [e]

/-- A store into the last stream. -/
theorem St.setStr {o' : Obj} {k : Nat} {c : Array Value} (h : St w a n cap km kr (k + 1) (fun j => if j = k then .cells c 60 else so j) wx) (i : Nat) (v : Value) (ho : o' = .cells (c.setIfInBounds i v) 60) :
    St w a n cap km kr (k + 1) (fun j => if j = k then o' else so j) (wx.setCell ⟨w.heap.size + 5 + k, i, none⟩ v) := by
  have hne : ∀ b, b ≠ w.heap.size + 5 + k → (wx.setCell ⟨w.heap.size + 5 + k, i, none⟩ v).heap[b]? = wx.heap[b]? := fun b hb => Deep.blk_setCell_other _ _ _ _ hb
  refine ⟨(hne _ (by omega)).trans h.box, (hne _ (by omega)).trans h.map, (hne _ (by omega)).trans h.inn, h.row.of_block (hne _ (by omega)), (hne _ (by omega)).trans h.lst, fun j hj => ?_, h.below.setCell (by show w.heap.size ≤ w.heap.size + 5 + k; omega) _⟩
  by_cases e : j = k
  · subst e
    have := h.str j (by omega)
    simp only [if_true] at this
    rw [heap_setCell_at _ this]
    simp [ho]
  · rw [hne _ (by omega), h.str j hj]
    simp [e]

/-- list[kr] = stream kr. -/
theorem St.setRow (h : St w a n cap km kr ks so wx) : St w a n cap km (kr + 1) ks so (wx.setCell ⟨w.heap.size + 1 + 1 + 1, kr, none⟩ (ptr (w.heap.size + 5 + kr))) := by
  have hne : ∀ b, b ≠ w.heap.size + 1 + 1 + 1 → (wx.setCell ⟨w.heap.size + 1 + 1 + 1, kr, none⟩ (ptr (w.heap.size + 5 + kr))).heap[b]? = wx.heap[b]? := fun b hb => Deep.blk_setCell_other _ _ _ _ hb
  refine ⟨(hne _ (by omega)).trans h.box, (hne _ (by omega)).trans h.map, (hne _ (by omega)).trans h.inn, (h.row.set _ _).congr fun i _ => ?_, (hne _ (by omega)).trans h.lst, fun j hj => (hne _ (by omega)).trans (h.str j hj), h.below.setCell (by show w.heap.size ≤ w.heap.size + 1 + 1 + 1; omega) _⟩
  by_cases e : i = kr
  · subst e
    simp
  · by_cases e2 : i < kr
    · simp [e, e2, show i < kr + 1 by omega]
    · simp [e, e2, show ¬ i < kr + 1 by omega]

/-- in.streams[s] = struct{}{}. -/
theorem St.upd (h : St w a n cap km kr ks so wx) (hk : km < ks) (hso : ∀ j, j < ks → ∃ c, so j = .cells c 60) :
    ∃ wy, (Instr.mapUpdate 24 (.map (some (w.heap.size + 1))) (ptr (w.heap.size + 5 + km)) (.agg #[])).run Yba.prog wx = .ok () wy ∧ St w a n cap (km + 1) kr ks so wy ∧ wy.heap.size = wx.heap.size := by
  have hS : ∀ j, j < ks → IsStream wx (w.heap.size + 5 + j) := fun j hj => by
    obtain ⟨c, hc⟩ := hso j hj
    exact ⟨c, by rw [h.str j hj, hc]⟩
  have hrun := run_update_new (keys49 wx) (mt := 24) Yba.underlying24 (.agg #[]) (l := keysOf w.heap.size km) (fun p hp => by
    obtain ⟨j, hj, rfl⟩ := keysOf_mem hp
    exact hS j (by omega)) h.map (hS km hk) (keysOf_has _ _)
  rw [← keysOf_succ] at hrun
  refine ⟨_, hrun, ?_, by simp⟩
  have hne : ∀ b, b ≠ w.heap.size + 1 → (wx.heap.setIfInBounds (w.heap.size + 1) (.map (ents ptr (.agg #[]) (keysOf w.heap.size (km + 1))).toArray (km + 1)))[b]? = wx.heap[b]? := fun b hb => by
    rw [Array.getElem?_setIfInBounds, if_neg (fun e => hb e.symm)]
  refine ⟨(hne _ (by omega)).trans h.box, ?_, (hne _ (by omega)).trans h.inn, h.row.of_block (hne _ (by omega)), (hne _ (by omega)).trans h.lst, fun j hj => (hne _ (by omega)).trans (h.str j hj), ?_⟩
  · show (wx.heap.setIfInBounds _ _)[_]? = _
    rw [Array.getElem?_setIfInBounds, if_pos rfl, if_pos (ltOf h.map)]
  · exact ⟨h.below.os, h.below.tape, h.below.output, by simpa using h.below.size, fun b hb => (hne _ (by omega)).trans (h.below.block b hb)⟩
end
end Go.Proofs.Ybulkacks.Q
