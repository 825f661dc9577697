import Derived.Test.YbulkacjcSteps
import Derived.Deep.OwnRows
import Derived.Laws.CopyOwn
namespace Go.Proofs.Ybulkacjc.Eff
open Go.RowKit

/-- A slice of integers that came in: its elements are the numbers z. -/
def Row (k : IntKind) (w : World) (a : Option Addr) (len : Nat) (z : Nat → Int) : Prop :=
  0 < len → ∃ b off, a = some ⟨b, off, none⟩ ∧ b < w.heap.size ∧ ∀ j, j < len → w.cell? ⟨b, off + j, none⟩ = some (.int k (z j))

/-- make([]T, n), T of several cells. -/
theorem run_make_wide {P : Program} (t e : TypeId) (z : Value) (size bytes : Nat) (ht : P.underlying t = some (.slice e)) (hinfo : (P.info? e).map (fun i => (i.zero, i.size, i.bytes)) = some (some z, size, bytes))
    (kl kc : IntKind) (n : Nat) (hbytes : bytes * n ≤ 281474976710656) (h63 : n ≤ 9223372036854775807) (w : World) :
    (Instr.makeSlice t (.int kl (n : Int)) (.int kc (n : Int))).run P w = .ok (.slice (some ⟨w.heap.size, 0, none⟩) n n) (w.alloc (.cells (madeCells z.cells (n * size)) e)) := by
  obtain ⟨i, hi, hzz⟩ := Option.map_eq_some_iff.1 hinfo
  simp only [Prod.mk.injEq] at hzz
  obtain ⟨hz, hs, hb⟩ := hzz
  have hb' : (i.bytes : Int) * (n : Int) ≤ 281474976710656 := by
    have h : ((i.bytes * n : Nat) : Int) ≤ 281474976710656 := by rw [hb]; omega
    rwa [Int.natCast_mul] at h
  have hr := run_make (P := P) w t e i z ht hi hz kl kc n n (by omega) (Int.le_refl _) hb' (by omega)
  simp only [Int.toNat_natCast, hs] at hr
  exact hr

/-- The nine cells of step j. -/
def stepVal (zo mt : Nat → Int) (j : Nat) : Nat → Value
  | 0 => .int .u8 (opv (zo j))
  | 1 => .int .i64 ((j : Int) + 1)
  | 2 => .int .i64 0
  | 3 => .pointer none
  | 4 => .pointer none
  | 5 => .pointer none
  | 6 => .int .i64 0
  | 7 => .int .i64 0
  | _ => .int .i64 (mt j)

def zeroStep : Nat → Value
  | 0 => .int .u8 0
  | 3 => .pointer none
  | 4 => .pointer none
  | 5 => .pointer none
  | _ => .int .i64 0

def stepsAt (zo mt : Nat → Int) (k i : Nat) : Value := if i / 9 < k then stepVal zo mt (i / 9) (i % 9) else zeroStep (i % 9)

def mtOf (n1 : Nat) (zm : Nat → Int) (j : Nat) : Int := if j < n1 then zm j else 0

theorem stepsAt_in (zo mt : Nat → Int) (k j r : Nat) (hj : j < k) (hr : r < 9) : stepsAt zo mt k (j * 9 + r) = stepVal zo mt j r := by
  have e1 : (j * 9 + r) / 9 = j := by omega
  have e2 : (j * 9 + r) % 9 = r := by omega
  simp [stepsAt, e1, e2, hj]

theorem stepsAt_other (zo mt : Nat → Int) (k i : Nat) (h : i / 9 ≠ k) : stepsAt zo mt (k + 1) i = stepsAt zo mt k i := by
  unfold stepsAt
  by_cases h' : i / 9 < k
  · rw [if_pos h', if_pos (by omega)]
  · rw [if_neg h', if_neg (by omega)]

theorem info3 : (Yba.prog.info? 3).map (fun i => (i.zero, i.size, i.bytes)) = some (some (.int .i64 0), 1, 8) := by kernel_rfl
theorem info33 : (Yba.prog.info? 33).map (fun i => (i.zero, i.size, i.bytes)) = some (some (.agg #[.int .u8 0, .int .i64 0, .int .i64 0, .pointer none, .pointer none, .pointer none, .int .i64 0, .int .i64 0, .int .i64 0]), 9, 72) := by kernel_rfl

theorem made_steps (w : World) (zo mt : Nat → Int) (n : Nat) :
    (w.alloc (.cells (madeCells (Value.agg #[.int .u8 0, .int .i64 0, .int .i64 0, .pointer none, .pointer none, .pointer none, .int .i64 0, .int .i64 0, .int .i64 0]).cells (n * 9)) 33)).rowIs w.heap.size 33 (n * 9) (stepsAt zo mt 0) := by
  have h := World.rowIs_alloc w (madeCells (Value.agg #[.int .u8 0, .int .i64 0, .int .i64 0, .pointer none, .pointer none, .pointer none, .int .i64 0, .int .i64 0, .int .i64 0]).cells (n * 9)) 33 (stepsAt zo mt 0) ?_
  · rwa [size_madeCells] at h
  · intro i hi
    rw [size_madeCells] at hi
    have h9 : i % 9 < 9 := Nat.mod_lt _ (by omega)
    simp only [madeCells, Value.cells, Array.getElem?_map, Array.getElem?_range, hi, if_true, Option.map_some, stepsAt, Nat.not_lt_zero, if_false, Array.size, List.length_cons, List.length_nil, Nat.reduceAdd]
    generalize i % 9 = r at h9
    match r, h9 with
    | 0, _ => rfl
    | 1, _ => rfl
    | 2, _ => rfl
    | 3, _ => rfl
    | 4, _ => rfl
    | 5, _ => rfl
    | 6, _ => rfl
    | 7, _ => rfl
    | 8, _ => rfl

/-- Nine stores at step k. -/
abbrev nine (w : World) (S i : Nat) (v0 v1 v2 v3 v4 v5 v6 v7 v8 : Value) : World :=
  ((((((((w.setCell ⟨S, i, none⟩ v0).setCell ⟨S, i + 1, none⟩ v1).setCell ⟨S, i + 2, none⟩ v2).setCell ⟨S, i + 3, none⟩ v3).setCell ⟨S, i + 4, none⟩ v4).setCell ⟨S, i + 5, none⟩ v5).setCell ⟨S, i + 6, none⟩ v6).setCell ⟨S, i + 7, none⟩ v7).setCell ⟨S, i + 8, none⟩ v8

theorem store_step (w : World) (S n k : Nat) (zo mt : Nat → Int) (h : w.rowIs S 33 (n * 9) (stepsAt zo mt k)) :
    (nine w S (k * 9) (stepVal zo mt k 0) (stepVal zo mt k 1) (stepVal zo mt k 2) (stepVal zo mt k 3) (stepVal zo mt k 4) (stepVal zo mt k 5) (stepVal zo mt k 6) (stepVal zo mt k 7) (stepVal zo mt k 8)).rowIs S 33 (n * 9) (stepsAt zo mt (k + 1)) := by
  refine (((((((((h.set _ _).set _ _).set _ _).set _ _).set _ _).set _ _).set _ _).set _ _).set _ _).congr fun i _ => ?_
  by_cases hk : i / 9 = k
  · have h9 : i % 9 < 9 := Nat.mod_lt _ (by omega)
    obtain ⟨r, hr⟩ : ∃ r, r = i % 9 := ⟨_, rfl⟩
    have hi : i = k * 9 + r := by omega
    rw [← hr] at h9
    rw [hi, stepsAt_in zo mt (k + 1) k r (by omega) h9]
    have e0 : ∀ r s : Nat, (k * 9 + r = k * 9 + s) = (r = s) := fun r s => by simp
    have e1 : ∀ r : Nat, (k * 9 + r = k * 9) = (r = 0) := fun r => by simp
    simp only [e0, e1]
    match r, h9 with
    | 0, _ => rfl
    | 1, _ => rfl
    | 2, _ => rfl
    | 3, _ => rfl
    | 4, _ => rfl
    | 5, _ => rfl
    | 6, _ => rfl
    | 7, _ => rfl
    | 8, _ => rfl
  · rw [stepsAt_other _ _ _ _ hk]
    simp only [show i ≠ k * 9 + 8 by omega, show i ≠ k * 9 + 7 by omega, show i ≠ k * 9 + 6 by omega, show i ≠ k * 9 + 5 by omega, show i ≠ k * 9 + 4 by omega, show i ≠ k * 9 + 3 by omega, show i ≠ k * 9 + 2 by omega, show i ≠ k * 9 + 1 by omega, show i ≠ k * 9 by omega, if_false]

theorem below_nine {B : Nat} {a w : World} (h : Below B a w) (S i : Nat) (hS : B ≤ S) (v0 v1 v2 v3 v4 v5 v6 v7 v8 : Value) : Below B a (nine w S i v0 v1 v2 v3 v4 v5 v6 v7 v8) :=
  ((((((((h.setCell hS _).setCell hS _).setCell hS _).setCell hS _).setCell hS _).setCell hS _).setCell hS _).setCell hS _).setCell hS _

/-- The copy of left: make and copy, one world. -/
theorem copy_left (w : World) (a : Addr) (n cap : Nat) (zl : Nat → Int) (hc : ∀ j, j < n → w.cell? (a.add j) = some (.int .i64 (zl j))) (hb : a.block < w.heap.size) :
    ∃ w3, (∀ ty, (Builtin.copy_ #[23, 23] ty #[.slice (some ⟨w.heap.size, 0, none⟩) n n, .slice (some a) n cap]).run Yba.prog (w.alloc (.cells (madeCells #[.int .i64 0] n) 3)) = .ok (goInt n) w3) ∧
      w3.rowIs w.heap.size 3 n (fun j => .int .i64 (zl j)) ∧ Below w.heap.size w w3 ∧ w3.heap.size = w.heap.size + 1 := by
  obtain ⟨cs, hcs⟩ : ∃ cs, cs = (List.range n).map (fun j => Value.int .i64 (zl j)) := ⟨_, rfl⟩
  have hlen : cs.length = n := by rw [hcs]; simp
  have hg := Deep.blk_alloc_new w (.cells (madeCells #[.int .i64 0] n) 3)
  have hget : ∀ j : Nat, j < n → cs[j]? = some (.int .i64 (zl j)) := fun j hj => by rw [hcs]; simp [hj]
  have hrun := fun ty => run_copy_row (P := Yba.prog) (w.alloc (.cells (madeCells #[.int .i64 0] n) 3)) 23 23 ty 3 w.heap.size 0 n n a n cap (madeCells #[.int .i64 0] n) 3 cs Yba.underlying23 (by kernel_rfl) hg (by rw [hlen]; simp)
    (fun j v hv => by
      have hj : j < n := by
        have := (List.getElem?_eq_some_iff.1 hv).1
        omega
      rw [hget j hj] at hv
      rw [← hv, ← hc j hj]
      exact World.cell?_of_block (w := w) (Deep.blk_alloc_lt _ _ _ (by unfold Addr.add; split <;> exact hb)))
    (by rw [size_madeCells]; omega)
    (fun v hv => by rw [hcs] at hv; simp at hv; obtain ⟨j, _, rfl⟩ := hv; rfl)
  rw [hlen] at hrun
  refine ⟨_, hrun, ?_, below_setRow ((Below.refl _ w).alloc (Nat.le_refl _) _) (Nat.le_refl _) _, by simp [World.setRow]⟩
  · refine ⟨_, setRow_heap _ _ _ _ 3 (0, 0) hg, ?_, fun i hi => ?_⟩
    · simp [hlen, size_madeCells]
    · have hd : (madeCells #[.int .i64 0] n).toList.drop n = [] := List.drop_eq_nil_of_le (by simp [size_madeCells])
      simp [hd, hget i hi]

/-- A row of its own at 'base' or above. -/
def Own (w : World) (base : Nat) (a : Option Addr) (n : Nat) (z : Nat → Int) : Prop :=
  0 < n → ∃ C, a = some ⟨C, 0, none⟩ ∧ base ≤ C ∧ w.rowIs C 3 n (fun j => .int .i64 (z j))

abbrev funcObj (S n : Nat) : Obj := .cells #[.string ⟨#[102]⟩, .int .i64 1, .slice (some ⟨S, 0, none⟩) n n] 35
abbrev gObj (id rest : Int) (F : Nat) (pc : Int) (a : Option Addr) (n5 c : Nat) : Obj := .cells #[.int .i64 id, ptr F, .int .i64 pc, .int .i64 rest, .slice a n5 c] 38

/-- What receivedNothing leaves in pc. -/
def pcOf (zo mt : Nat → Int) (q : Nat) : Int := if opv (zo q) = 8 then wrap64 (mt q + 1) else (q : Int) + 1

theorem cellOf {w : World} {b i : Nat} {c : Array Value} {t : TypeId} {v : Value} (h : w.heap[b]? = some (.cells c t (0, 0))) (hv : c[i]? = some v) : w.cell? ⟨b, i, none⟩ = some v := by
  simp [World.cell?, h, hv]
theorem frozenOf {w : World} {b : Nat} (i : Nat) {c : Array Value} {t : TypeId} (h : w.heap[b]? = some (.cells c t (0, 0))) : w.frozen? ⟨b, i, none⟩ = false := by
  simp [World.frozen?, h]
theorem heap_setCell_at {w : World} {b i : Nat} {c : Array Value} {t : TypeId} (v : Value) (h : w.heap[b]? = some (.cells c t (0, 0))) : (w.setCell ⟨b, i, none⟩ v).heap[b]? = some (.cells (c.setIfInBounds i v) t (0, 0)) := by
  simp [World.setCell, Array.getElem?_modify, h]

/-- The memory from the call of receivedNothing on: w the world in which the law began. -/
structure Mid (w : World) (n : Nat) (zo mt : Nat → Int) (F G : Nat) (id rest pc : Int) (a : Option Addr) (n5 c : Nat) (zl : Nat → Int) (wd : World) : Prop where
  sF : w.heap.size < F
  sG : F < G
  steps : wd.rowIs w.heap.size 33 (n * 9) (stepsAt zo mt n)
  func : wd.heap[F]? = some (funcObj w.heap.size n)
  g : wd.heap[G]? = some (gObj id rest F pc a n5 c)
  own : Own wd (F + 1) a n5 zl
  below : Below w.heap.size w wd

theorem mid_start {w wr wc : World} {n : Nat} {zo mt : Nat → Int} {a : Option Addr} {n5 c : Nat} {zl : Nat → Int} (id rest pc : Int)
    (hrow : wr.rowIs w.heap.size 33 (n * 9) (stepsAt zo mt n)) (hb : Below w.heap.size w wr)
    (ho : Own wc (wr.heap.size + 1) a n5 zl) (hc : Below (wr.heap.size + 1) (wr.alloc (funcObj w.heap.size n)) wc) :
    Mid w n zo mt wr.heap.size wc.heap.size id rest pc a n5 c zl (wc.alloc (gObj id rest wr.heap.size pc a n5 c)) := by
  have hlt := hrow.lt
  have hs : wr.heap.size + 1 ≤ wc.heap.size := by have := hc.size; simpa using this
  have hle : w.heap.size ≤ wr.heap.size := by omega
  refine ⟨hlt, by omega, ?_, ?_, Deep.blk_alloc_new _ _, ?_, ?_⟩
  · have h1 : (wr.alloc (funcObj w.heap.size n)).rowIs w.heap.size 33 (n * 9) (stepsAt zo mt n) := hrow.alloc _
    exact (h1.of_block (hc.block _ (by omega))).alloc _
  · rw [Deep.blk_alloc_lt _ _ _ (by omega), hc.block _ (by omega)]
    exact Deep.blk_alloc_new _ _
  · intro h0
    obtain ⟨C, e, h1, h2⟩ := ho h0
    exact ⟨C, e, h1, h2.alloc _⟩
  · exact ((hb.alloc (by omega) _).trans (hc.mono (by omega))).alloc (by omega) _

theorem Mid.same {w : World} {n : Nat} {zo mt : Nat → Int} {F G : Nat} {id rest pc : Int} {a : Option Addr} {n5 c : Nat} {zl : Nat → Int} {wd : World} (h : Mid w n zo mt F G id rest pc a n5 c zl wd) :
    Mid w n zo mt F G id rest pc a n5 c zl wd.drew := ⟨h.sF, h.sG, h.steps, h.func, h.g, h.own, h.below.drew⟩

theorem Mid.store {w : World} {n : Nat} {zo mt : Nat → Int} {F G : Nat} {id rest pc : Int} {a : Option Addr} {n5 c : Nat} {zl : Nat → Int} {wd : World} (h : Mid w n zo mt F G id rest pc a n5 c zl wd) (pc' : Int) :
    Mid w n zo mt F G id rest pc' a n5 c zl (wd.setCell ⟨G, 2, none⟩ (.int .i64 pc')) := by
  have hF := h.sF
  have hG := h.sG
  refine ⟨h.sF, h.sG, h.steps.setOther (by show w.heap.size ≠ G; omega) _, ?_, ?_, ?_, h.below.setCell (by show w.heap.size ≤ G; omega) _⟩
  · rw [Deep.blk_setCell_other _ _ _ _ (by show F ≠ G; omega)]
    exact h.func
  · rw [heap_setCell_at _ h.g]
    rfl
  · intro h0
    obtain ⟨C, e, h1, h2⟩ := h.own h0
    refine ⟨C, e, h1, h2.setOther (fun hc => ?_) _⟩
    have hc' : C = G := hc
    obtain ⟨cc, hcc, _, _⟩ := h2
    rw [hc', h.g] at hcc
    simp at hcc

theorem Mid.alloc {w : World} {n : Nat} {zo mt : Nat → Int} {F G : Nat} {id rest pc : Int} {a : Option Addr} {n5 c : Nat} {zl : Nat → Int} {wd : World} (h : Mid w n zo mt F G id rest pc a n5 c zl wd) (o : Obj) :
    Mid w n zo mt F G id rest pc a n5 c zl (wd.alloc o) := by
  have hF := h.sF
  have hG := h.sG
  have hlt : G < wd.heap.size := (Array.getElem?_eq_some_iff.1 h.g).1
  refine ⟨h.sF, h.sG, h.steps.alloc _, ?_, ?_, ?_, h.below.alloc h.below.size _⟩
  · rw [Deep.blk_alloc_lt _ _ _ (by omega)]; exact h.func
  · rw [Deep.blk_alloc_lt _ _ _ hlt]; exact h.g
  · intro h0
    obtain ⟨C, e, h1, h2⟩ := h.own h0
    exact ⟨C, e, h1, h2.alloc _⟩

theorem Mid.drewN {w : World} {n : Nat} {zo mt : Nat → Int} {F G : Nat} {id rest pc : Int} {a : Option Addr} {n5 c : Nat} {zl : Nat → Int} {wd : World} (h : Mid w n zo mt F G id rest pc a n5 c zl wd) (m : Nat) :
    Mid w n zo mt F G id rest pc a n5 c zl (wd.drewN m) := ⟨h.sF, h.sG, h.steps, h.func, h.g, h.own, ⟨h.below.os, h.below.tape, h.below.output, h.below.size, h.below.block⟩⟩
end Go.Proofs.Ybulkacjc.Eff
