import Derived.Test.YbulkaciaPlace
namespace Go.Proofs.Ybulkacia.Ex
open Go.RowKit Go.Fl
attribute [local go_sem] run_store_float

/-- The metrics' slice that came in. -/
def Data (w : World) (a : Option Addr) (n : Nat) (m : Ms) : Prop :=
  0 < n → ∃ B o, a = some ⟨B, o, none⟩ ∧ B < w.heap.size ∧ ∀ j, j < n → w.cell? ⟨B, o + j * 5, none⟩ = some (.int .i64 (m.lo j)) ∧ w.cell? ⟨B, o + j * 5 + 1, none⟩ = some (.int .i64 (m.hi j)) ∧
    w.cell? ⟨B, o + j * 5 + 2, none⟩ = some (.float .f64 (m.part j)) ∧ w.cell? ⟨B, o + j * 5 + 3, none⟩ = some (.int .i64 (m.A j)) ∧ w.cell? ⟨B, o + j * 5 + 4, none⟩ = some (.int .i64 (m.B j))

/-- A slice of integers that came in. -/
def Row (w : World) (a : Option Addr) (len : Nat) (z : Nat → Int) : Prop :=
  0 < len → ∃ b off, a = some ⟨b, off, none⟩ ∧ b < w.heap.size ∧ ∀ j, j < len → w.cell? ⟨b, off + j, none⟩ = some (.int .i64 (z j))

abbrev dObj (m : Ms) (j : Nat) : Obj := .cells #[.int .i64 (m.lo j), .int .i64 (m.hi j), .float .f64 (m.part j), .int .i64 (m.A j), .int .i64 (m.B j)] 27

abbrev upd (f : Nat → Value) (i : Nat) (v : Value) : Nat → Value := fun j => if j = i then v else f j
abbrev f1 (N : Nat) (m : Ms) (k : Nat) : Nat → Value := upd (metAt N m k) (k * 12 + 2) (.slice (some ⟨N + 2 + 2 * k + 1, 0, none⟩) 2 2)
abbrev f2 (N : Nat) (m : Ms) (k : Nat) : Nat → Value := upd (f1 N m k) (k * 12 + 5) (.int .i64 (m.lo k))
abbrev f3 (N : Nat) (m : Ms) (k : Nat) : Nat → Value := upd (f2 N m k) (k * 12 + 6) (.int .i64 (m.hi k))
abbrev f4 (N : Nat) (m : Ms) (k : Nat) : Nat → Value := upd (f3 N m k) (k * 12 + 8) (.float .f64 (m.part k))

theorem f4_eq (N : Nat) (m : Ms) (k i : Nat) : f4 N m k i = metAt N m (k + 1) i := by
  by_cases hk : i / 12 = k
  · have h9 : i % 12 < 12 := Nat.mod_lt _ (by omega)
    obtain ⟨r, hr⟩ : ∃ r, r = i % 12 := ⟨_, rfl⟩
    have hi : i = k * 12 + r := by omega
    rw [← hr] at h9
    subst hi
    have h2 := metAt_in N m (k + 1) k r (by omega) h9
    have h3 := metAt_new N m k r h9
    have e0 : ∀ r s : Nat, (k * 12 + r = k * 12 + s) = (r = s) := fun r s => by simp
    simp only [f4, f3, f2, f1, upd, e0, h2, h3]
    match r, h9 with
    | 0, _ => rfl
    | 1, _ => rfl
    | 2, _ => rfl
    | 3, _ => rfl
    | 4, _ => rfl
    | 5, _ => rfl
    | 6, _ => rfl
    | 7, _ => rfl
    | 8, _ => rfl
    | 9, _ => rfl
    | 10, _ => rfl
    | 11, _ => rfl
  · have : metAt N m (k + 1) i = metAt N m k i := by
      unfold metAt
      by_cases h' : i / 12 < k
      · rw [if_pos h', if_pos (by omega)]
      · rw [if_neg h', if_neg (by omega)]
    rw [this]
    simp only [f4, f3, f2, f1, upd, show i ≠ k * 12 + 8 by omega, show i ≠ k * 12 + 6 by omega, show i ≠ k * 12 + 5 by omega, show i ≠ k * 12 + 2 by omega, if_false]

/-- The memory inside round k of the first loop: u units, the metrics' row f, the loads' row g. -/
structure L1 (w : World) (n : Nat) (m : Ms) (k u : Nat) (f g : Nat → Value) (wd : World) : Prop where
  met : wd.rowIs w.heap.size 33 (n * 12) f
  ls : wd.rowIs (w.heap.size + 1) 2 n g
  unit : ∀ j, j < u → wd.heap[w.heap.size + 2 + 2 * j + 1]? = some (unitObj m j)
  d : wd.heap[w.heap.size + 2 + 2 * k]? = some (dObj m k)
  below : Below w.heap.size w wd

abbrev lsF (ld : Nat → Int) (k : Nat) : Nat → Value := fun j => .int .i64 (if j < k then ld j else 0)

section
variable {w : World} {n : Nat} {m : Ms} {k u : Nat} {f g : Nat → Value} {wd : World}
theorem L1.setMet (h : L1 w n m k u f g wd) (i : Nat) (v : Value) : L1 w n m k u (upd f i v) g (wd.setCell ⟨w.heap.size, i, none⟩ v) := by
  have hne : ∀ b, b ≠ w.heap.size → (wd.setCell ⟨w.heap.size, i, none⟩ v).heap[b]? = wd.heap[b]? := fun b hb => Deep.blk_setCell_other _ _ _ _ hb
  exact ⟨h.met.set _ _, h.ls.of_block (hne _ (by omega)), fun j hj => (hne _ (by omega)).trans (h.unit j hj), (hne _ (by omega)).trans h.d, h.below.setCell (Nat.le_refl _) _⟩
theorem L1.setLs (h : L1 w n m k u f g wd) (i : Nat) (v : Value) : L1 w n m k u f (upd g i v) (wd.setCell ⟨w.heap.size + 1, i, none⟩ v) := by
  have hne : ∀ b, b ≠ w.heap.size + 1 → (wd.setCell ⟨w.heap.size + 1, i, none⟩ v).heap[b]? = wd.heap[b]? := fun b hb => Deep.blk_setCell_other _ _ _ _ hb
  exact ⟨h.met.of_block (hne _ (by omega)), h.ls.set _ _, fun j hj => (hne _ (by omega)).trans (h.unit j hj), (hne _ (by omega)).trans h.d, h.below.setCell (Nat.le_add_right _ _) _⟩
end

theorem L1.start {w : World} {n : Nat} {m : Ms} {ld : Nat → Int} {k : Nat} {wr : World} (h : St w n m ld k wr) (hs : wr.heap.size = w.heap.size + 2 + 2 * k) :
    L1 w n m k k (metAt w.heap.size m k) (lsF ld k) (wr.alloc (dObj m k)) ∧ (wr.alloc (dObj m k)).heap.size = w.heap.size + 2 + 2 * k + 1 := by
  have h' := h.alloc (by omega) (dObj m k)
  refine ⟨⟨h'.met, h'.ls, h'.unit, ?_, h'.below⟩, by rw [Deep.nblk_alloc, hs]⟩
  rw [← hs]; exact Deep.blk_alloc_new _ _

theorem L1.unitMade {w : World} {n : Nat} {m : Ms} {k : Nat} {f g : Nat → Value} {wd : World} (h : L1 w n m k k f g wd) (hs : wd.heap.size = w.heap.size + 2 + 2 * k + 1) :
    L1 w n m k (k + 1) f g (wd.alloc (unitObj m k)) ∧ (wd.alloc (unitObj m k)).heap.size = w.heap.size + 2 + 2 * (k + 1) := by
  have hk : ∀ b, b < w.heap.size + 2 + 2 * k + 1 → (wd.alloc (unitObj m k)).heap[b]? = wd.heap[b]? := fun b hb => Deep.blk_alloc_lt _ _ _ (by omega)
  refine ⟨⟨h.met.of_block (hk _ (by omega)), h.ls.of_block (hk _ (by omega)), fun j hj => ?_, (hk _ (by omega)).trans h.d, h.below.alloc h.below.size _⟩, by rw [Deep.nblk_alloc, hs]; omega⟩
  by_cases e : j = k
  · subst e
    rw [← hs]; exact Deep.blk_alloc_new _ _
  · rw [hk _ (by omega)]; exact h.unit j (by omega)

/-- The memory in the second loop: GB the block of got. -/
structure G2 (w : World) (n : Nat) (m : Ms) (ld : Nat → Int) (GB e es s ss : Nat) (kp cl : Bool) (wr : World) : Prop where
  st : St w n m ld n wr
  got : wr.heap[GB]? = some (costObj e es s ss kp cl)

structure G3 (w : World) (n : Nat) (m : Ms) (ld : Nat → Int) (GB e es s ss : Nat) (kp cl : Bool) (DB t : Nat) (wr : World) : Prop where
  g : G2 w n m ld GB e es s ss kp cl wr
  d : wr.heap[DB]? = some (dObj m t)

section
variable {w : World} {n : Nat} {m : Ms} {ld : Nat → Int} {GB e es s ss : Nat} {kp cl : Bool} {DB t : Nat} {wr : World}
theorem G2.drewN (h : G2 w n m ld GB e es s ss kp cl wr) (q : Nat) : G2 w n m ld GB e es s ss kp cl (wr.drewN q) :=
  ⟨⟨h.st.met, h.st.ls, h.st.unit, ⟨h.st.below.os, h.st.below.tape, h.st.below.output, h.st.below.size, h.st.below.block⟩⟩, h.got⟩
theorem G3.drewN (h : G3 w n m ld GB e es s ss kp cl DB t wr) (q : Nat) : G3 w n m ld GB e es s ss kp cl DB t (wr.drewN q) := ⟨h.g.drewN q, h.d⟩
theorem G2.made (h : G2 w n m ld GB e es s ss kp cl wr) (hGB : w.heap.size + 2 + 2 * n ≤ GB) (t : Nat) : G3 w n m ld GB e es s ss kp cl wr.heap.size t (wr.alloc (dObj m t)) := by
  have hlt := ltOf h.got
  exact ⟨⟨h.st.alloc (by omega) _, by rw [Deep.blk_alloc_lt _ _ _ hlt]; exact h.got⟩, Deep.blk_alloc_new _ _⟩
end

set_option maxRecDepth 100000 in
set_option maxHeartbeats 8000000 in
theorem law (a0 : Option Addr) (n cap0 : Nat) (m : Ms) (a1 : Option Addr) (n1 cap1 : Nat) (zl : Nat → Int) (sel : Int) (bound : Bool) (w : World) (h0 : n ≤ 1024) (hs0 : 0 ≤ sel) (hd : Data w a0 n m) (hr : Row w a1 n1 zl) :
    Calls Yba.prog 3 #[.slice a0 n cap0, .slice a1 n1 cap1, .int .u8 sel, .bool bound] w fun e w' => e = .returned (.bool true) ∧ Below w.heap.size w w' := by
  have HD : Hid (Data w a0 n m) := hd
  have HRow : Hid (Row w a1 n1 zl) := hr
  obtain ⟨ld, hld⟩ : ∃ ld : Nat → Int, ld = fun j => if j < n1 then zl j else 0 := ⟨_, rfl⟩
  have HLd : Hid (ld = fun j => if j < n1 then zl j else 0) := hld
  clear hd hr hld
  obtain ⟨uu, huu⟩ : ∃ uu, sel.tmod 2 = uu := ⟨_, rfl⟩
  have hu : uu = 0 ∨ uu = 1 := by
    rw [Int.tmod_eq_emod_of_nonneg hs0] at huu
    omega
  have HU : Hid (uu = 0 ∨ uu = 1) := hu
  have hwu : wrap64 uu = uu := by rcases hu with rfl | rfl <;> simp [wrap64]
  have HWU : Hid (wrap64 uu = uu) := hwu
  clear hu hs0 hwu
  have hmk := run_make_wide 24 33 _ 12 176 Yba.underlying24 info33 .i64 .i64 n (by omega) (by omega)
  have hmk2 := run_make_row' (P := Yba.prog) 23 2 _ 8 Yba.underlying23 info2 rfl .i64 .i64 n (by omega) (by omega)
  have hd0 : decide ((1024 : Int) < n) = false := by simp; omega
  go_enter Yba.func3, Yba.ntmps3
  go_wp2
  clear hmk hmk2 hd0 huu
  go_loopg [43] n (fun g i wr => ∃ k : Nat, g + k = n ∧ i = .int .i64 (k : Int) ∧ St w n m ld k wr ∧ wr.heap.size = w.heap.size + 2 + 2 * k)
  case atStart =>
    refine ⟨0, rfl, rfl, ⟨(made_mets w w.heap.size m n).alloc _, ?_, fun j hj => absurd hj (by omega), ?_⟩, by simp⟩
    · have h := World.rowIs_made (w.alloc (.cells (madeCells zero33.cells (n * 12)) 33)) (.int .i64 0) n 2
      rw [Deep.nblk_alloc] at h
      exact h.congr fun i _ => by simp
    · exact ((Below.refl _ w).alloc (Nat.le_refl _) _).alloc (by simp) _
  case round =>
    obtain ⟨k, hg, rfl, hst, hsz⟩ := hrel
    have HS : Hid (St w n m ld k wr) := hst
    have HZ : Hid (wr.heap.size = w.heap.size + 2 + 2 * k) := hsz
    clear hst hsz
    by_cases hlt : k < n
    · obtain ⟨B, o, rfl, hB, hdat⟩ := HD.out (by omega)
      obtain ⟨x0, x1, x2, x3, x4⟩ := hdat k hlt
      have y0 : wr.cell? ⟨B, o + k * 5, none⟩ = _ := (HS.out.below.cell (p := ⟨B, o + k * 5, none⟩) hB).trans x0
      have y1 : wr.cell? ⟨B, o + k * 5 + 1, none⟩ = _ := (HS.out.below.cell (p := ⟨B, o + k * 5 + 1, none⟩) hB).trans x1
      have y2 : wr.cell? ⟨B, o + k * 5 + 2, none⟩ = _ := (HS.out.below.cell (p := ⟨B, o + k * 5 + 2, none⟩) hB).trans x2
      have y3 : wr.cell? ⟨B, o + k * 5 + 3, none⟩ = _ := (HS.out.below.cell (p := ⟨B, o + k * 5 + 3, none⟩) hB).trans x3
      have y4 : wr.cell? ⟨B, o + k * 5 + 4, none⟩ = _ := (HS.out.below.cell (p := ⟨B, o + k * 5 + 4, none⟩) hB).trans x4
      clear hdat x0 x1 x2 x3 x4
      go_upto_region 8 with fail
      go_cut [12, 13] (fun a b wd => a = .int .i64 (k : Int) ∧ b = ptr (w.heap.size + 2 + 2 * k) ∧ L1 w n m k k (metAt w.heap.size m k) (lsF ld k) wd ∧ wd.heap.size = w.heap.size + 2 + 2 * k + 1)
      case first =>
        go_wp2
        go_meet
        obtain ⟨l1, l2⟩ := L1.start HS.out HZ.out
        exact ⟨rfl, by rw [HZ.out], l1, l2⟩
      obtain ⟨rfl, rfl, hL, hz⟩ := hcut
      clear y0 y1 y2 y3 y4 HS HZ
      obtain ⟨w1, hw1⟩ : ∃ x, x = wc := ⟨_, rfl⟩
      subst hw1
      have HL : Hid (L1 w n m k k (metAt w.heap.size m k) (lsF ld k) w1) := hL
      have HZ : Hid (w1.heap.size = w.heap.size + 2 + 2 * k + 1) := hz
      have d3 := cellOf (i := 3) hL.d rfl
      have d4 := cellOf (i := 4) hL.d rfl
      clear hL hz
      have c2 := HL.out.met.cell (i := k * 12 + 2) (by omega)
      have c2' : ∀ ob, (w1.alloc ob).cell? ⟨w.heap.size, k * 12 + 2, none⟩ = some (metAt w.heap.size m k (k * 12 + 2)) := fun ob => by
        rw [← c2]; exact World.cell?_of_block (w := w1) (Deep.blk_alloc_lt w1 ob w.heap.size (by have := HZ.out; omega))
      have f2' : ∀ ob, (w1.alloc ob).frozen? ⟨w.heap.size, k * 12 + 2, none⟩ = false := fun ob => by
        rw [← HL.out.met.frozen (k * 12 + 2)]; exact World.frozen?_of_block (w := w1) (Deep.blk_alloc_lt w1 ob w.heap.size (by have := HZ.out; omega))
      clear c2
      go_upto_region 9 with fail
      go_cut [] (fun wd => L1 w n m k (k + 1) (f1 w.heap.size m k) (lsF ld k) wd ∧ wd.heap.size = w.heap.size + 2 + 2 * (k + 1))
      case first =>
        go_wp2
        go_meet
        obtain ⟨l1, l2⟩ := L1.unitMade HL.out HZ.out
        have l3 := l1.setMet (k * 12 + 2) (.slice (some ⟨w.heap.size + 2 + 2 * k + 1, 0, none⟩) 2 2)
        rw [HZ.out]
        exact ⟨l3, by simpa [World.setCell] using l2⟩
      obtain ⟨hL, hz⟩ := hcut
      clear HL HZ d3 d4 c2' f2'
      obtain ⟨w2, hw2⟩ : ∃ x, x = wc := ⟨_, rfl⟩
      subst hw2
      have HL2 : Hid (L1 w n m k (k + 1) (f1 w.heap.size m k) (lsF ld k) w2) := hL
      have HZ2 : Hid (w2.heap.size = w.heap.size + 2 + 2 * (k + 1)) := hz
      have dd := cellOf (i := 0) hL.d rfl
      have cc := hL.met.cell (i := k * 12 + 5) (by omega)
      have ff := hL.met.frozen (k * 12 + 5)
      clear hL hz
      go_upto_region 10 with fail
      go_cut [] (fun wd => L1 w n m k (k + 1) (f2 w.heap.size m k) (lsF ld k) wd ∧ wd.heap.size = w.heap.size + 2 + 2 * (k + 1))
      case first =>
        go_wp2
        go_meet
        exact ⟨HL2.out.setMet _ _, by simpa [World.setCell] using HZ2.out⟩
      obtain ⟨hL, hz⟩ := hcut
      clear HL2 HZ2 dd cc ff
      obtain ⟨w3, hw3⟩ : ∃ x, x = wc := ⟨_, rfl⟩
      subst hw3
      have HL3 : Hid (L1 w n m k (k + 1) (f2 w.heap.size m k) (lsF ld k) w3) := hL
      have HZ3 : Hid (w3.heap.size = w.heap.size + 2 + 2 * (k + 1)) := hz
      have dd := cellOf (i := 1) hL.d rfl
      have cc := hL.met.cell (i := k * 12 + 6) (by omega)
      have ff := hL.met.frozen (k * 12 + 6)
      clear hL hz
      go_upto_region 11 with fail
      go_cut [] (fun wd => L1 w n m k (k + 1) (f3 w.heap.size m k) (lsF ld k) wd ∧ wd.heap.size = w.heap.size + 2 + 2 * (k + 1))
      case first =>
        go_wp2
        go_meet
        exact ⟨HL3.out.setMet _ _, by simpa [World.setCell] using HZ3.out⟩
      obtain ⟨hL, hz⟩ := hcut
      clear HL3 HZ3 dd cc ff
      obtain ⟨w4, hw4⟩ : ∃ x, x = wc := ⟨_, rfl⟩
      subst hw4
      have HL4 : Hid (L1 w n m k (k + 1) (f3 w.heap.size m k) (lsF ld k) w4) := hL
      have HZ4 : Hid (w4.heap.size = w.heap.size + 2 + 2 * (k + 1)) := hz
      have dd := cellOf (i := 2) hL.d rfl
      have cc := hL.met.cell (i := k * 12 + 8) (by omega)
      have ff := hL.met.frozen (k * 12 + 8)
      clear hL hz
      go_upto_region 12 with fail
      go_cut [] (fun wd => L1 w n m k (k + 1) (f4 w.heap.size m k) (lsF ld k) wd ∧ wd.heap.size = w.heap.size + 2 + 2 * (k + 1))
      case first =>
        go_wp2
        go_meet
        exact ⟨HL4.out.setMet _ _, by simpa [World.setCell] using HZ4.out⟩
      obtain ⟨hL, hz⟩ := hcut
      clear HL4 HZ4 dd cc ff
      obtain ⟨w5, hw5⟩ : ∃ x, x = wc := ⟨_, rfl⟩
      subst hw5
      have HL5 : Hid (L1 w n m k (k + 1) (f4 w.heap.size m k) (lsF ld k) w5) := hL
      have HZ5 : Hid (w5.heap.size = w.heap.size + 2 + 2 * (k + 1)) := hz
      have cc := hL.ls.cell hlt
      have ff := hL.ls.frozen k
      clear hL hz
      by_cases hk1 : k < n1
      · obtain ⟨B1, o1, rfl, hB1, hrow⟩ := HRow.out (by omega)
        have z1 : w5.cell? ⟨B1, o1 + k, none⟩ = some (.int .i64 (zl k)) := (HL5.out.below.cell (p := ⟨B1, o1 + k, none⟩) hB1).trans (hrow k hk1)
        have HK : Hid (ld k = zl k) := by show _ = _; rw [HLd.out]; simp [hk1]
        clear hrow
        go_wp2
        go_roundg (gk - 1)
        case measure => omega
        case rel =>
          have h5 := HL5.out.setLs k (.int .i64 (zl k))
          refine ⟨k + 1, by omega, by go_num, ⟨h5.met.congr fun i _ => f4_eq _ _ _ _, h5.ls.congr fun i _ => ?_, h5.unit, h5.below⟩, by simpa [World.setCell] using HZ5.out⟩
          by_cases e : i = k
          · subst e; simp [HK.out]
          · by_cases e2 : i < k
            · simp [upd, e, e2, show i < k + 1 by omega]
            · simp [upd, e, e2, show ¬ i < k + 1 by omega]
      · have HK : Hid (ld k = 0) := by show _ = _; rw [HLd.out]; simp [hk1]
        go_wp2
        go_roundg (gk - 1)
        case measure => omega
        case rel =>
          have h5 := HL5.out
          refine ⟨k + 1, by omega, by go_num, ⟨h5.met.congr fun i _ => f4_eq _ _ _ _, h5.ls.congr fun i _ => ?_, h5.unit, h5.below⟩, HZ5.out⟩
          by_cases e : i = k
          · subst e; simp [HK.out]
          · by_cases e2 : i < k
            · simp [e2, show i < k + 1 by omega]
            · simp [e2, show ¬ i < k + 1 by omega]
    · obtain rfl : k = n := by omega
      obtain ⟨cs, hcs, hc2⟩ := built56 (some ⟨w.heap.size, 0, none⟩) k k
      go_wp2_with fail
      refine wp_build_as 56 _ rfl [(2, .slice (some ⟨w.heap.size, 0, none⟩) k k)] (by simp [Act.eval]) cs hcs ?_
      go_wp2_with fail
      rw [HWU.out]
      refine (place w k m ld cs uu bound (wr.alloc (.cells cs 56)) h0 HU.out (HS.out.alloc (by rw [HZ.out]; exact Nat.le_refl _) _) wr.heap.size HZ.out (Deep.blk_alloc_new _ _) hc2 (Deep.nblk_alloc _ _)).mono ?_
      rintro v w2 ⟨e, es, s, ss, rfl, hco, hst2, hsz2⟩
      obtain ⟨mt, hmt⟩ : ∃ mt, mt = mtOf m ld uu := ⟨_, rfl⟩
      rw [← hmt] at hco ⊢
      obtain ⟨kp, hkp⟩ : ∃ kp, (if bound then leq0 e else mt.kept k) = kp := ⟨_, rfl⟩
      obtain ⟨cl, hcl⟩ : ∃ cl, mt.clean k = cl := ⟨_, rfl⟩
      rw [hkp, hcl]
      have HMt : Hid (mt = mtOf m ld uu) := hmt
      have HKP : Hid ((if bound then leq0 e else mt.kept k) = kp) := hkp
      have HCL : Hid (mt.clean k = cl) := hcl
      have HCo : Hid (CostAt mt bound k e es s ss) := hco
      have HGB : Hid (w.heap.size + 2 + 2 * k ≤ w2.heap.size) := Nat.le_of_lt hsz2
      have HG0 : Hid (G2 w k m ld w2.heap.size e es s ss kp cl (w2.alloc (costObj e es s ss kp cl))) := ⟨hst2.alloc (by omega) _, Deep.blk_alloc_new _ _⟩
      clear hmt hkp hcl hco hst2 hsz2 HS HZ hcs hc2
      go_wp2
      obtain ⟨GB, hGB⟩ : ∃ GB, w2.heap.size = GB := ⟨_, rfl⟩
      rw [hGB] at HGB HG0 ⊢
      clear hGB
      go_loopg [16, 17, 18, 19, 20, 21, 97] k (fun g ex exS sq sqS kept clean i wr => ∃ t : Nat, g + t = k ∧ i = .int .i64 (t : Int) ∧ (∃ e' es' s' ss', ex = .float .f64 e' ∧ exS = .float .f64 es' ∧ sq = .float .f64 s' ∧ sqS = .float .f64 ss' ∧ PosSum mt.TE t e' ∧ PosSum mt.TES t es' ∧ PosSum mt.TS t s' ∧ PosSum mt.TSS t ss') ∧ kept = .bool (mt.kept t) ∧ clean = .bool (mt.clean t) ∧ G2 w k m ld GB e es s ss kp cl wr)
      case atStart => exact ⟨0, rfl, rfl, ⟨0, 0, 0, 0, rfl, rfl, rfl, rfl, rfl, rfl, rfl, rfl⟩, rfl, rfl, HG0.out⟩
      case round =>
        clear HG0
        obtain ⟨t, hgt, rfl, ⟨e', es', s', ss', rfl, rfl, rfl, rfl, pe, pes, ps, pss⟩, rfl, rfl, hG⟩ := hrel
        have HPos : Hid (PosSum mt.TE t e' ∧ PosSum mt.TES t es' ∧ PosSum mt.TS t s' ∧ PosSum mt.TSS t ss') := ⟨pe, pes, ps, pss⟩
        have HG : Hid (G2 w k m ld GB e es s ss kp cl wr) := hG
        clear pe pes ps pss hG
        by_cases hlt2 : t < k
        · obtain ⟨B, o, rfl, hB, hdat⟩ := HD.out (by omega)
          obtain ⟨x0, x1, x2, x3, x4⟩ := hdat t hlt2
          have y0 : wr.cell? ⟨B, o + t * 5, none⟩ = _ := (HG.out.st.below.cell (p := ⟨B, o + t * 5, none⟩) hB).trans x0
          have y1 : wr.cell? ⟨B, o + t * 5 + 1, none⟩ = _ := (HG.out.st.below.cell (p := ⟨B, o + t * 5 + 1, none⟩) hB).trans x1
          have y2 : wr.cell? ⟨B, o + t * 5 + 2, none⟩ = _ := (HG.out.st.below.cell (p := ⟨B, o + t * 5 + 2, none⟩) hB).trans x2
          have y3 : wr.cell? ⟨B, o + t * 5 + 3, none⟩ = _ := (HG.out.st.below.cell (p := ⟨B, o + t * 5 + 3, none⟩) hB).trans x3
          have y4 : wr.cell? ⟨B, o + t * 5 + 4, none⟩ = _ := (HG.out.st.below.cell (p := ⟨B, o + t * 5 + 4, none⟩) hB).trans x4
          clear hdat x0 x1 x2 x3 x4
          go_upto_region 22 with fail
          go_cut [22, 23] (fun a b wd => a = .int .i64 (t : Int) ∧ ∃ DB, b = ptr DB ∧ G3 w k m ld GB e es s ss kp cl DB t wd)
          case first =>
            go_wp2
            go_meet
            exact ⟨rfl, _, rfl, HG.out.made HGB.out t⟩
          obtain ⟨rfl, DB, rfl, hG3⟩ := hcut
          clear y0 y1 y2 y3 y4 HG
          obtain ⟨w3, hw3⟩ : ∃ x, x = wc := ⟨_, rfl⟩
          subst hw3
          have HG3 : Hid (G3 w k m ld GB e es s ss kp cl DB t w3) := hG3
          have d0 : w3.cell? ⟨DB, 0, none⟩ = some (.int .i64 (m.lo t)) := cellOf hG3.d rfl
          have d1 : w3.cell? ⟨DB, 1, none⟩ = some (.int .i64 (m.hi t)) := cellOf hG3.d rfl
          have d2 : w3.cell? ⟨DB, 2, none⟩ = some (.float .f64 (m.part t)) := cellOf hG3.d rfl
          have d3 : w3.cell? ⟨DB, 3, none⟩ = some (.int .i64 (m.A t)) := cellOf hG3.d rfl
          have d4 : w3.cell? ⟨DB, 4, none⟩ = some (.int .i64 (m.B t)) := cellOf hG3.d rfl
          have lt := hG3.g.st.ls.cell hlt2
          simp only [hlt2, if_true] at lt
          clear hG3
          go_upto_if 105 with fail
          go_cut [24] (fun v wd => v = .int .i64 (mt.l t) ∧ w3 = wd)
          case first =>
            rcases HU.out with rfl | rfl
            · go_wp2
              go_meet
              exact ⟨by rw [HMt.out]; simp, rfl⟩
            · go_wp2
              go_meet
              exact ⟨by rw [HMt.out]; simp, rfl⟩
          obtain ⟨rfl, rfl⟩ := hcut
          obtain ⟨L, hL⟩ : ∃ L, mt.l t = L := ⟨_, rfl⟩
          rw [hL]
          have HL : Hid (mt.l t = L) := hL
          clear hL
          go_upto_region 27 with fail
          go_cut [26] (fun v wd => v = .int .i64 (mt.one t) ∧ ∃ q, w3.drewN q = wd)
          case first =>
            have HO : Hid (mt.one t = wrap64 (exc (m.lo t) (m.hi t) (wrap64 (ld t + L)) - exc (m.lo t) (m.hi t) (ld t))) := by
              have h := HL.out
              have h2 := HMt.out
              subst h2
              show _ = _
              unfold Mt.one
              rw [h]
            go_quiet (first | (go_at_call 6; exact Calls.quiet_of_same (zexcess _ _ _ _)))
            go_wp2
            go_meet
            exact ⟨by rw [HO.out], _, rfl⟩
          obtain ⟨rfl, q0, rfl⟩ := hcut
          obtain ⟨O, hO⟩ : ∃ O, mt.one t = O := ⟨_, rfl⟩
          rw [hO]
          have HO : Hid (mt.one t = O) := hO
          clear hO
          have hadd := fun x y w => run_fadd (P := Yba.prog) 25 x y w
          have hmul := fun x y w => run_fmul (P := Yba.prog) 25 x y w
          go_upto_region 28 with fail
          go_cut [27] (fun v wd => ∃ dq q, v = .float .f64 dq ∧ Dsq L (ld t) dq ∧ w3.drewN q = wd)
          case first =>
            go_wp2
            go_meet
            exact ⟨_, _, rfl, ⟨_, _, mulV_is _ _ _, addV_is _ _ _, mulV_is _ _ _⟩, rfl⟩
          obtain ⟨dq, q1, rfl, hdq, rfl⟩ := hcut
          have HDq : Hid (Dsq L (ld t) dq) := hdq
          clear hdq d0 d1 d3 d4 lt
          obtain ⟨kt, hkt⟩ : ∃ kt, mt.kept t = kt := ⟨_, rfl⟩
          obtain ⟨ct, hct⟩ : ∃ ct, mt.clean t = ct := ⟨_, rfl⟩
          rw [hkt, hct]
          have HKt : Hid (mt.kept t = kt) := hkt
          have HCt : Hid (mt.clean t = ct) := hct
          clear hkt hct
          go_upto_if 137 with fail
          go_cut [21] (fun v wd => v = .bool (ct && !decide (0 < O)) ∧ w3.drewN q1 = wd)
          case first =>
            by_cases h1 : 0 < O
            · go_wp2
              go_meet
              exact ⟨by simp [h1], rfl⟩
            · go_wp2
              go_meet
              exact ⟨by simp [h1], rfl⟩
          obtain ⟨rfl, rfl⟩ := hcut
          go_upto_if 139 with fail
          go_cut [20] (fun v wd => v = .bool (kt && O == 0) ∧ w3.drewN q1 = wd)
          case first =>
            by_cases h1 : O = 0
            · subst h1
              go_wp2
              go_meet
              exact ⟨by simp, rfl⟩
            · have h1' : (O == 0) = false := by simpa using h1
              go_wp2
              go_meet
              exact ⟨by simp [h1'], rfl⟩
          obtain ⟨rfl, rfl⟩ := hcut
          go_upto_region 33 with fail
          go_cut [16] (fun v wd => ∃ e1 q, v = .float .f64 e1 ∧ TermE (m.part t) O e' e1 ∧ w3.drewN q = wd)
          case first =>
            go_wp2
            go_meet
            exact ⟨_, _, rfl, ⟨_, mulV_is _ _ _, addV_is _ _ _⟩, rfl⟩
          obtain ⟨e1, q2, rfl, hTE, rfl⟩ := hcut
          have HTE : Hid (TermE (m.part t) O e' e1) := hTE
          clear hTE
          go_upto_region 34 with fail
          go_cut [17] (fun v wd => ∃ e1 q, v = .float .f64 e1 ∧ TermES (m.part t) O es' e1 ∧ w3.drewN q = wd)
          case first =>
            go_region_with (first | (go_at_call 7; refine (abs_any _ _).mono ?_; rintro e w' ⟨rfl, rfl⟩))
            all_goals go_wp2
            all_goals go_meet
            all_goals exact ⟨_, _, rfl, ⟨_, mulV_is _ _ _, addV_is _ _ _⟩, rfl⟩
          obtain ⟨es1, q3, rfl, hTES, rfl⟩ := hcut
          have HTES : Hid (TermES (m.part t) O es' es1) := hTES
          clear hTES
          go_upto_region 35 with fail
          go_cut [28] (fun v wd => ∃ g q, v = .float .f64 g ∧ IsMul (m.part t) (m.part t) g ∧ w3.drewN q = wd)
          case first =>
            go_wp2
            go_meet
            exact ⟨_, _, rfl, mulV_is _ _ _, rfl⟩
          obtain ⟨gw, q4, rfl, hgw, rfl⟩ := hcut
          have HGw : Hid (IsMul (m.part t) (m.part t) gw) := hgw
          clear hgw d2
          go_upto_region 36 with fail
          go_cut [18] (fun v wd => ∃ e1 q, v = .float .f64 e1 ∧ TermS (m.part t) dq s' e1 ∧ w3.drewN q = wd)
          case first =>
            go_wp2
            go_meet
            exact ⟨_, _, rfl, ⟨gw, _, HGw.out, mulV_is _ _ _, addV_is _ _ _⟩, rfl⟩
          obtain ⟨s1, q5, rfl, hTS, rfl⟩ := hcut
          have HTS : Hid (TermS (m.part t) dq s' s1) := hTS
          clear hTS
          go_upto_region 37 with fail
          go_wp2_with (first | (go_at_call 7; refine (abs_any _ _).mono ?_; rintro e w' ⟨rfl, rfl⟩))
          clear hadd hmul
          go_roundg (gk - 1)
          case measure => omega
          case rel =>
            have hm := HMt.out
            have hpart : mt.part = m.part := by rw [hm]
            have hldd : mt.ld = ld := by rw [hm]
            have hDL : Dsq (mt.l t) (mt.ld t) dq := by rw [HL.out, hldd]; exact HDq.out
            refine ⟨t + 1, by omega, by go_num, ⟨e1, es1, s1, _, rfl, rfl, rfl, rfl, ⟨e', HPos.out.1, ?_⟩, ⟨es', HPos.out.2.1, ?_⟩, ⟨s', HPos.out.2.2.1, dq, hDL, ?_⟩, ⟨ss', HPos.out.2.2.2, dq, hDL, ?_⟩⟩, ?_, ?_, (HG3.out.drewN _).g⟩
            · unfold Mt.TE; rw [hpart, HO.out]; exact HTE.out
            · unfold Mt.TES; rw [hpart, HO.out]; exact HTES.out
            · rw [hpart]; exact HTS.out
            · rw [hpart]; exact ⟨gw, _, HGw.out, mulV_is _ _ _, addV_is _ _ _⟩
            · simp only [Mt.kept, HKt.out, HO.out]
            · simp only [Mt.clean, HCt.out, HO.out]
        · obtain rfl : t = k := by omega
          have HSe : Hid (Sim e e') := PosSum.sim mt.TE_sim HCo.out.e HPos.out.1
          have HSs : Hid (Sim s s') := PosSum.sim mt.TS_sim HCo.out.s HPos.out.2.2.1
          go_upto_if 172 with fail
          go_cut [17, 19, 20] (fun a b c wd => ∃ es2 ss2, a = .float .f64 es2 ∧ b = .float .f64 ss2 ∧ c = .bool kp ∧ Sim es es2 ∧ Sim ss ss2 ∧ wr = wd)
          case first =>
            cases bound with
            | true =>
              have hk := HKP.out
              simp only [if_true] at hk
              obtain ⟨b1, b2⟩ := HCo.out.b rfl
              have HKL : Hid (leq0 e' = kp) := by show _ = _; rw [← hk]; exact (leq0_sim HSe.out).symm
              have HB : Hid (Sim es 0 ∧ Sim ss 0) := by rw [b1, b2]; exact ⟨Sim.refl _, Sim.refl _⟩
              clear hk b1 b2
              go_wp2
              go_meet
              exact ⟨0, 0, rfl, rfl, by rw [← HKL.out]; rfl, HB.out.1, HB.out.2, rfl⟩
            | false =>
              have hk := HKP.out
              simp only [Bool.false_eq_true, if_false] at hk
              obtain ⟨b1, b2⟩ := HCo.out.nb rfl
              have HKL : Hid (mt.kept t = kp) := hk
              have HB : Hid (Sim es es' ∧ Sim ss ss') := ⟨PosSum.sim mt.TES_sim b1 HPos.out.2.1, PosSum.sim mt.TSS_sim b2 HPos.out.2.2.2⟩
              clear hk b1 b2
              go_wp2
              go_meet
              exact ⟨es', ss', rfl, rfl, by rw [← HKL.out], HB.out.1, HB.out.2, rfl⟩
          obtain ⟨es2, ss2, rfl, rfl, rfl, hSes, hSss, rfl⟩ := hcut
          have HSes : Hid (Sim es es2) := hSes
          have HSss : Hid (Sim ss ss2) := hSss
          clear hSes hSss
          rw [HCL.out]
          have g0 := cellOf (i := 0) HG.out.got rfl
          have g1 := cellOf (i := 1) HG.out.got rfl
          have g2 := cellOf (i := 2) HG.out.got rfl
          have g3 := cellOf (i := 3) HG.out.got rfl
          have g4 := cellOf (i := 4) HG.out.got rfl
          have g5 := cellOf (i := 5) HG.out.got rfl
          have HB : Hid (Below w.heap.size w wr) := HG.out.st.below
          clear HG HGB
          go_wp2_with (first
            | (go_at_call_of 8 e; refine (feq_any e e' _ HSe.out).mono ?_; rintro v w' ⟨rfl, rfl⟩)
            | (go_at_call_of 8 es; refine (feq_any es es2 _ HSes.out).mono ?_; rintro v w' ⟨rfl, rfl⟩)
            | (go_at_call_of 8 s; refine (feq_any s s' _ HSs.out).mono ?_; rintro v w' ⟨rfl, rfl⟩)
            | (go_at_call_of 8 ss; refine (feq_any ss ss2 _ HSss.out).mono ?_; rintro v w' ⟨rfl, rfl⟩))
          go_ret
          exact ⟨rfl, HB.out⟩
end Go.Proofs.Ybulkacia.Ex
