import Derived.Test.YbulkaciaCalls
import Derived.Laws.Tables
namespace Go.Proofs.Ybulkacia.Ex
open Go.RowKit Go.Fl

/-- make([]T, n), T of several cells. -/
theorem run_make_wide {P : Program} (t e : TypeId) (z : Value) (size bytes : Nat) (ht : P.underlying t = some (.slice e)) (hinfo : (P.info? e).map (fun i => (i.zero, i.size, i.bytes)) = some (some z, size, bytes))
    (kl kc : IntKind) (n : Nat) (hbytes : bytes * n ≤ 281474976710656) (h63 : n ≤ 9223372036854775807) (w : World) :
    (Instr.makeSlice t (.int kl (n : Int)) (.int kc (n : Int))).run P w = .ok (.slice (some ⟨w.heap.size, 0, none⟩) n n) (w.alloc (.cells (madeCells z.cells (n * size)) e)) := by
  obtain ⟨i, hi, hzz⟩ := Option.map_eq_some_iff.1 hinfo
  simp only [Prod.mk.injEq] at hzz
  obtain ⟨hz, hs, hb⟩ := hzz
  have hb' : (i.bytes : Int) * (n : Int) ≤ 281474976710656 := by
    have h : ((i.bytes * n : Nat) : Int) ≤ 281474976710656 := by rw [hb]; omega
    rwa [Int.natCast_mul] at h
  have hr := run_make (P := P) w t e i z ht hi hz kl kc n n (by omega) (Int.le_refl _) hb' (by omega)
  simp only [Int.toNat_natCast, hs] at hr
  exact hr

abbrev zero33 : Value := .agg #[.float .f64 0, .int .i64 0, .slice none 0 0, .slice none 0 0, .slice none 0 0, .int .i64 0, .int .i64 0, .int .i64 0, .float .f64 0, .slice none 0 0, .slice none 0 0, .bool false]
theorem info33 : (Yba.prog.info? 33).map (fun i => (i.zero, i.size, i.bytes)) = some (some zero33, 12, 176) := by kernel_rfl
theorem info2 : (Yba.prog.info? 2).map (fun i => (i.zero, i.size, i.bytes)) = some (some (.int .i64 0), 1, 8) := by kernel_rfl

/-- The metrics that came in. -/
structure Ms where
  lo : Nat → Int
  hi : Nat → Int
  part : Nat → Nat
  A : Nat → Int
  B : Nat → Int

def zeroMet : Nat → Value
  | 0 => .float .f64 0
  | 1 => .int .i64 0
  | 2 => .slice none 0 0
  | 3 => .slice none 0 0
  | 4 => .slice none 0 0
  | 5 => .int .i64 0
  | 6 => .int .i64 0
  | 7 => .int .i64 0
  | 8 => .float .f64 0
  | 9 => .slice none 0 0
  | 10 => .slice none 0 0
  | _ => .bool false

def metVal (N : Nat) (m : Ms) (j : Nat) : Nat → Value
  | 2 => .slice (some ⟨N + 2 + 2 * j + 1, 0, none⟩) 2 2
  | 5 => .int .i64 (m.lo j)
  | 6 => .int .i64 (m.hi j)
  | 8 => .float .f64 (m.part j)
  | r => zeroMet r

def metAt (N : Nat) (m : Ms) (k i : Nat) : Value := if i / 12 < k then metVal N m (i / 12) (i % 12) else zeroMet (i % 12)

theorem metAt_in (N : Nat) (m : Ms) (k j r : Nat) (hj : j < k) (hr : r < 12) : metAt N m k (j * 12 + r) = metVal N m j r := by
  have e1 : (j * 12 + r) / 12 = j := by omega
  have e2 : (j * 12 + r) % 12 = r := by omega
  simp [metAt, e1, e2, hj]

theorem metAt_new (N : Nat) (m : Ms) (k r : Nat) (hr : r < 12) : metAt N m k (k * 12 + r) = zeroMet r := by
  have e1 : (k * 12 + r) / 12 = k := by omega
  have e2 : (k * 12 + r) % 12 = r := by omega
  simp [metAt, e1, e2]

theorem made_mets (w : World) (N : Nat) (m : Ms) (n : Nat) : (w.alloc (.cells (madeCells zero33.cells (n * 12)) 33)).rowIs w.heap.size 33 (n * 12) (metAt N m 0) := by
  have h := World.rowIs_alloc w (madeCells zero33.cells (n * 12)) 33 (metAt N m 0) ?_
  · rwa [size_madeCells] at h
  · intro i hi
    rw [size_madeCells] at hi
    have h9 : i % 12 < 12 := Nat.mod_lt _ (by omega)
    simp only [madeCells, Value.cells, Array.getElem?_map, Array.getElem?_range, hi, if_true, Option.map_some, metAt, Nat.not_lt_zero, if_false, Array.size, List.length_cons, List.length_nil, Nat.reduceAdd]
    generalize i % 12 = r at h9
    match r, h9 with
    | 0, _ => rfl
    | 1, _ => rfl
    | 2, _ => rfl
    | 3, _ => rfl
    | 4, _ => rfl
    | 5, _ => rfl
    | 6, _ => rfl
    | 7, _ => rfl
    | 8, _ => rfl
    | 9, _ => rfl
    | 10, _ => rfl
    | 11, _ => rfl

/-- Four stores at metric k. -/
theorem store_met (w : World) (N n k : Nat) (m : Ms) (h : w.rowIs N 33 (n * 12) (metAt N m k)) :
    ((((w.setCell ⟨N, k * 12 + 2, none⟩ (.slice (some ⟨N + 2 + 2 * k + 1, 0, none⟩) 2 2)).setCell ⟨N, k * 12 + 5, none⟩ (.int .i64 (m.lo k))).setCell ⟨N, k * 12 + 6, none⟩ (.int .i64 (m.hi k))).setCell ⟨N, k * 12 + 8, none⟩ (.float .f64 (m.part k))).rowIs N 33 (n * 12) (metAt N m (k + 1)) := by
  refine ((((h.set _ _).set _ _).set _ _).set _ _).congr fun i _ => ?_
  by_cases hk : i / 12 = k
  · have h9 : i % 12 < 12 := Nat.mod_lt _ (by omega)
    obtain ⟨r, hr⟩ : ∃ r, r = i % 12 := ⟨_, rfl⟩
    have hi : i = k * 12 + r := by omega
    rw [← hr] at h9
    rw [hi, metAt_in N m (k + 1) k r (by omega) h9, metAt_new N m k r h9]
    have e0 : ∀ r s : Nat, (k * 12 + r = k * 12 + s) = (r = s) := fun r s => by simp
    simp only [e0]
    match r, h9 with
    | 0, _ => rfl
    | 1, _ => rfl
    | 2, _ => rfl
    | 3, _ => rfl
    | 4, _ => rfl
    | 5, _ => rfl
    | 6, _ => rfl
    | 7, _ => rfl
    | 8, _ => rfl
    | 9, _ => rfl
    | 10, _ => rfl
    | 11, _ => rfl
  · have : metAt N m (k + 1) i = metAt N m k i := by
      unfold metAt
      by_cases h' : i / 12 < k
      · rw [if_pos h', if_pos (by omega)]
      · rw [if_neg h', if_neg (by omega)]
    rw [this]
    simp only [show i ≠ k * 12 + 8 by omega, show i ≠ k * 12 + 6 by omega, show i ≠ k * 12 + 5 by omega, show i ≠ k * 12 + 2 by omega, if_false]

abbrev unitObj (m : Ms) (j : Nat) : Obj := .cells #[.int .i64 (m.A j), .int .i64 (m.B j)] 2

/-- The memory behind k rounds of the first loop. -/
structure St (w : World) (n : Nat) (m : Ms) (ld : Nat → Int) (k : Nat) (wr : World) : Prop where
  met : wr.rowIs w.heap.size 33 (n * 12) (metAt w.heap.size m k)
  ls : wr.rowIs (w.heap.size + 1) 2 n (fun j => .int .i64 (if j < k then ld j else 0))
  unit : ∀ j, j < k → wr.heap[w.heap.size + 2 + 2 * j + 1]? = some (unitObj m j)
  below : Below w.heap.size w wr

section
variable {w : World} {n : Nat} {m : Ms} {ld : Nat → Int} {k : Nat} {wr wy : World}
theorem St.keep (h : St w n m ld k wr) (hb : ∀ b, b < w.heap.size + 2 + 2 * k → wy.heap[b]? = wr.heap[b]?) (hB : Below w.heap.size w wy) : St w n m ld k wy :=
  ⟨h.met.of_block (hb _ (by omega)), h.ls.of_block (hb _ (by omega)), fun j hj => (hb _ (by omega)).trans (h.unit j hj), hB⟩
theorem St.alloc (h : St w n m ld k wr) (hs : w.heap.size + 2 + 2 * k ≤ wr.heap.size) (o : Obj) : St w n m ld k (wr.alloc o) :=
  h.keep (fun b hb => Deep.blk_alloc_lt _ _ _ (by omega)) (h.below.alloc h.below.size _)
end

/-! ### &spread{metrics: metrics} -/
theorem built56' (p : Option Addr) (l c : Nat) : ((Yba.prog.built 56 [(2, .slice p l c)]).bind (·[2]?)) = some (.slice p l c) := by kernel_rfl
theorem built56 (p : Option Addr) (l c : Nat) : ∃ cs, Yba.prog.built 56 [(2, .slice p l c)] = some cs ∧ cs[2]? = some (.slice p l c) := by
  have h := built56' p l c
  cases hb : Yba.prog.built 56 [(2, .slice p l c)] with
  | none => rw [hb] at h; cases h
  | some cs => rw [hb] at h; exact ⟨cs, rfl, h⟩
theorem wp_build_as {P : Program} {o : Oper} {a : Act} {w : World} {K : Act → World → Prop} {Q : Exit → Act → World → Prop} (t : TypeId) (parts : Array (Nat × Operand)) (ho : o.op = .build t parts) (vals : List (Nat × Value))
    (he : (parts.map fun (i, x) => (i, a.eval x)).toList = vals) (cells : Array Value) (hc : P.built t vals = some cells) (h : K (a.put o.dst (.agg cells)) w) : o.wp P a w K Q := by
  subst he
  unfold Oper.wp execOp
  simp only [ho, Sem.run_bind, run_build w t _ cells hc, Result.andThen_ok]
  exact h
end Go.Proofs.Ybulkacia.Ex
