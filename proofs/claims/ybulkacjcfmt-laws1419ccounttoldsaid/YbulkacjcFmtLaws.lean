import Derived.Test.YbulkacjcFmtAdd
import Derived.Laws.BitsAllLaws
import Derived.Deep.OwnRows
namespace Go.Proofs.YbulkacjcFmt.Add
open Go.RowKit Go.Extern.Stop Go.Stop Go.Extern

theorem masked (n : Int) (h0 : 0 ≤ n) (h1 : n ≤ 18446744073709551615) : ∃ m : Int, bits .and .u64 n 9223372036854775807 = m ∧ 0 ≤ m ∧ m ≤ 9223372036854775807 := by
  refine ⟨_, u64_and n 9223372036854775807 h0 (by omega) (by omega) (by omega), by omega, ?_⟩
  have : n.toNat &&& (9223372036854775807 : Int).toNat ≤ (9223372036854775807 : Int).toNat := Nat.and_le_right
  omega

theorem cell_alloc {w : World} {b i : Nat} {v : Value} (ob : Obj) (h : w.cell? ⟨b, i, none⟩ = some v) : (w.alloc ob).cell? ⟨b, i, none⟩ = some v := by
  rw [← h]
  exact World.cell?_of_block (w := w) (Below.heap_alloc _ _ _ (World.block_lt_of_cell? _ _ h))

theorem cellOf {w : World} {b i : Nat} {c : Array Value} {t : TypeId} {v : Value} (h : w.heap[b]? = some (.cells c t (0, 0))) (hv : c[i]? = some v) : w.cell? ⟨b, i, none⟩ = some v := by
  simp [World.cell?, h, hv]

theorem frozenOf {w : World} {b : Nat} (i : Nat) {c : Array Value} {t : TypeId} (h : w.heap[b]? = some (.cells c t (0, 0))) : w.frozen? ⟨b, i, none⟩ = false := by
  simp [World.frozen?, h]

abbrev simObj : Obj := .cells #[.int .i64 0, .int .i64 0, .int .i64 0, .int .i64 0, .int .i64 0, .slice none 0 0, .slice none 0 0, .int .i64 0, .int .i64 0, .slice none 0 0, .int .u64 0, .int .i64 0, .map none, .map none, .nilFunc, .pointer none, .int .i64 0, .int .i64 0, .slice none 0 0, .map none, .int .i64 0, .int .i64 0, .int .i64 0, .int .i64 0, .int .i64 0] 41
abbrev nameObj (gname : ByteArray) : Obj := .cells #[.string gname, .int .i64 0] 46
abbrev groupObj (N : Nat) (count : Int) : Obj := .cells #[ptr N, .int .i64 count, .slice none 0 0, .int .i64 0, .int .i64 0] 48
abbrev made (w : World) (line gid count : Int) (fname gname : ByteArray) : World :=
  (((((w.alloc simObj).alloc (stepObj line)).alloc (funcObj fname (w.heap.size + 1))).alloc (gObj gid (w.heap.size + 1 + 1))).alloc (nameObj gname)).alloc (groupObj (w.heap.size + 1 + 1 + 1 + 1) count)

theorem made_heap (w : World) (line gid count : Int) (fname gname : ByteArray) :
    (made w line gid count fname gname).heap[w.heap.size + 1]? = some (stepObj line) ∧ (made w line gid count fname gname).heap[w.heap.size + 1 + 1]? = some (funcObj fname (w.heap.size + 1)) ∧
    (made w line gid count fname gname).heap[w.heap.size + 1 + 1 + 1]? = some (gObj gid (w.heap.size + 1 + 1)) ∧ (made w line gid count fname gname).heap[w.heap.size + 1 + 1 + 1 + 1]? = some (nameObj gname) ∧
    (made w line gid count fname gname).heap[w.heap.size + 1 + 1 + 1 + 1 + 1]? = some (groupObj (w.heap.size + 1 + 1 + 1 + 1) count) ∧ Below w.heap.size w (made w line gid count fname gname) := by
  have s1 := Deep.nblk_alloc w simObj
  have s2 := Deep.nblk_alloc (w.alloc simObj) (stepObj line)
  have s3 := Deep.nblk_alloc ((w.alloc simObj).alloc (stepObj line)) (funcObj fname (w.heap.size + 1))
  have s4 := Deep.nblk_alloc (((w.alloc simObj).alloc (stepObj line)).alloc (funcObj fname (w.heap.size + 1))) (gObj gid (w.heap.size + 1 + 1))
  have s5 := Deep.nblk_alloc ((((w.alloc simObj).alloc (stepObj line)).alloc (funcObj fname (w.heap.size + 1))).alloc (gObj gid (w.heap.size + 1 + 1))) (nameObj gname)
  have n1 := Deep.blk_alloc_new (w.alloc simObj) (stepObj line)
  have n2 := Deep.blk_alloc_new ((w.alloc simObj).alloc (stepObj line)) (funcObj fname (w.heap.size + 1))
  have n3 := Deep.blk_alloc_new (((w.alloc simObj).alloc (stepObj line)).alloc (funcObj fname (w.heap.size + 1))) (gObj gid (w.heap.size + 1 + 1))
  have n4 := Deep.blk_alloc_new ((((w.alloc simObj).alloc (stepObj line)).alloc (funcObj fname (w.heap.size + 1))).alloc (gObj gid (w.heap.size + 1 + 1))) (nameObj gname)
  have n5 := Deep.blk_alloc_new (((((w.alloc simObj).alloc (stepObj line)).alloc (funcObj fname (w.heap.size + 1))).alloc (gObj gid (w.heap.size + 1 + 1))).alloc (nameObj gname)) (groupObj (w.heap.size + 1 + 1 + 1 + 1) count)
  rw [s1] at s2 n1
  rw [s2] at s3 n2
  rw [s3] at s4 n3
  rw [s4] at s5 n4
  rw [s5] at n5
  refine ⟨?_, ?_, ?_, ?_, n5, ?_⟩
  · rw [made, Deep.blk_alloc_lt _ _ _ (by omega), Deep.blk_alloc_lt _ _ _ (by omega), Deep.blk_alloc_lt _ _ _ (by omega), Deep.blk_alloc_lt _ _ _ (by omega)]; exact n1
  · rw [made, Deep.blk_alloc_lt _ _ _ (by omega), Deep.blk_alloc_lt _ _ _ (by omega), Deep.blk_alloc_lt _ _ _ (by omega)]; exact n2
  · rw [made, Deep.blk_alloc_lt _ _ _ (by omega), Deep.blk_alloc_lt _ _ _ (by omega)]; exact n3
  · rw [made, Deep.blk_alloc_lt _ _ _ (by omega)]; exact n4
  · exact ((((((Below.refl _ w).alloc (Nat.le_refl _) _).alloc (by omega) _).alloc (by omega) _).alloc (by omega) _).alloc (by omega) _).alloc (by omega) _

/-- The same, the world behind it a letter. -/
theorem add_over' (F' : Interp) (Z G F S W N : Nat) (line gid : Int) (fname gname : ByteArray) (count n : Int) (w : World) (hF : F'.answers w.tape) (hn : 0 ≤ n) (hn' : n ≤ 9223372036854775807) (hno : 9223372036854775807 - n < count)
    (w0 : w.cell? ⟨W, 0, none⟩ = some (ptr N)) (w1 : w.cell? ⟨W, 1, none⟩ = some (.int .i64 count)) (n0 : w.cell? ⟨N, 0, none⟩ = some (.string gname))
    (c0 : w.cell? ⟨G, 0, none⟩ = some (.int .i64 gid)) (c1 : w.cell? ⟨G, 1, none⟩ = some (ptr F)) (c2 : w.cell? ⟨G, 2, none⟩ = some (.int .i64 1))
    (d0 : w.cell? ⟨F, 0, none⟩ = some (.string fname)) (d2 : w.cell? ⟨F, 2, none⟩ = some (.slice (some ⟨S, 0, none⟩) 1 1)) (s1 : w.cell? ⟨S, 1, none⟩ = some (.int .i64 line)) :
    Calls Ybaf.prog 6 #[ptr Z, ptr G, ptr W, .int .i64 n] w fun e w' => ∃ X, e = .returned (.iface 53 (ptr X)) ∧ (∀ b i v, w.cell? ⟨b, i, none⟩ = some v → w'.cell? ⟨b, i, none⟩ = some v) ∧
      w'.cell? ⟨X, 0, none⟩ = some (.int .i64 line) ∧ w'.cell? ⟨X, 1, none⟩ = some (.int .i64 gid) ∧ w'.cell? ⟨X, 2, none⟩ = some (.string fname) ∧ Below w.heap.size w w' := by
  refine (add_over F' Z G F S W N line gid fname gname count n w hF hn hn' hno w0 w1 n0 c0 c1 c2 d0 d2 s1).mono ?_
  rintro e w' ⟨rfl, ob, what, k, rfl⟩
  have hnew : ((w.alloc ob).alloc (failObj line gid fname what)).heap[w.heap.size + 1]? = some (failObj line gid fname what) := by
    have h := Deep.blk_alloc_new (w.alloc ob) (failObj line gid fname what)
    rwa [Deep.nblk_alloc] at h
  refine ⟨_, rfl, fun b i v h => cell_alloc _ (cell_alloc _ h), ?_, ?_, ?_, ?_⟩
  · exact cellOf hnew rfl
  · exact cellOf hnew rfl
  · exact cellOf hnew rfl
  · have hb : Below w.heap.size w ((w.alloc ob).alloc (failObj line gid fname what)) := ((Below.refl _ _).alloc (Nat.le_refl _) _).alloc (by simp) _
    exact ⟨hb.os, hb.tape, hb.output, hb.size, hb.block⟩

set_option maxRecDepth 100000 in
set_option maxHeartbeats 2000000 in
theorem count_law (F' : Interp) (count n line gid : Int) (fname gname : ByteArray) (w : World) (hF : F'.answers w.tape) (hc0 : -9223372036854775808 ≤ count) (hc1 : count ≤ 9223372036854775807) (hn0 : 0 ≤ n) (hn1 : n ≤ 18446744073709551615) :
    Calls Ybaf.prog 3 #[.int .i64 count, .int .u64 n, .int .i64 line, .int .i64 gid, .string fname, .string gname] w fun e w' => e = .returned (.bool true) ∧ Below w.heap.size w w' := by
  obtain ⟨m, hm, hm0, hm1⟩ := masked n hn0 hn1
  clear hn0 hn1
  go_enter Ybaf.func3, Ybaf.ntmps3
  go_wp2_with fail
  refine (cg_any _ _ _ _).mono ?_
  rintro e w' ⟨rfl, rfl⟩
  obtain ⟨m1, m2, m3, m4, m5, mB⟩ := made_heap w line gid count fname gname
  by_cases hov : 9223372036854775807 - m < count
  · have hp : 0 ≤ count := by omega
    have hov2 : 9223372036854775807 < count + m := by omega
    have HC : Hid (Calls Ybaf.prog 6 _ _ _) := add_over' F' w.heap.size _ _ _ _ _ line gid fname gname count m (made w line gid count fname gname) (by exact hF) hm0 hm1 hov (cellOf m5 rfl) (cellOf m5 rfl) (cellOf m4 rfl) (cellOf m3 rfl) (cellOf m3 rfl) (cellOf m3 rfl) (cellOf m2 rfl) (cellOf m2 rfl) (cellOf m1 rfl)
    have q1 := cellOf (i := 1) m5 rfl
    have q4 := cellOf (i := 4) m5 rfl
    have HQ : Hid (_ ∧ _) := ⟨q1, q4⟩
    have HB : Hid (Below w.heap.size w (made w line gid count fname gname)) := mB
    clear m1 m2 m3 m4 m5 mB q1 q4
    go_wp2_with fail
    refine HC.out.mono ?_
    rintro e w2 ⟨X, rfl, hk, _, _, _, hB⟩
    have q1 := hk _ _ _ HQ.out.1
    have q4 := hk _ _ _ HQ.out.2
    have HB2 : Hid (Below (made w line gid count fname gname).heap.size (made w line gid count fname gname) w2) := hB
    clear hk hB HQ HC
    go_wp2
    go_ret
    exact ⟨rfl, HB.out.trans (HB2.out.mono HB.out.size)⟩
  · have HC : Hid (Calls Ybaf.prog 6 _ _ _) := add_ok w.heap.size (w.heap.size + 1 + 1 + 1) (w.heap.size + 1 + 1 + 1 + 1 + 1) count m (made w line gid count fname gname) hm0 hm1 hc0 hov (cellOf m5 rfl) (frozenOf 1 m5)
    clear m1 m2 m3 m4 m5 mB
    have hov2 : ¬ 9223372036854775807 < count + m := by omega
    by_cases hp : 0 ≤ count
    · go_wp2_with fail
      refine HC.out.mono ?_
      rintro e w2 ⟨rfl, rfl⟩
      clear HC
      go_wp2
      go_ret
      exact ⟨rfl, (made_heap w line gid (count + m) fname gname).2.2.2.2.2⟩
    · go_wp2_with fail
      refine HC.out.mono ?_
      rintro e w2 ⟨rfl, rfl⟩
      clear HC
      go_wp2
      go_ret
      exact ⟨rfl, (made_heap w line gid (count + m) fname gname).2.2.2.2.2⟩

theorem remd (a b : Int) (h0 : 0 ≤ a) (hb : 0 < b) : ∃ d, a.tmod b = d ∧ 0 ≤ d ∧ d < b :=
  ⟨_, Int.tmod_eq_emod_of_nonneg h0, Int.emod_nonneg _ (by omega), Int.emod_lt_of_pos _ hb⟩

theorem assert53 (v : Value) (w : World) : (Instr.typeAssert (.iface 53 v) 50 53 true).run Ybaf.prog w = .ok (.tuple #[v, .bool true]) w := by kernel_rfl

set_option maxRecDepth 100000 in
set_option maxHeartbeats 2000000 in
theorem failure_law (F' : Interp) (n e line gid : Int) (fname gname : ByteArray) (w : World) (hF : F'.answers w.tape) (hn0 : 0 ≤ n) (hn1 : n ≤ 18446744073709551615) (he0 : 0 ≤ e) (he1 : e ≤ 18446744073709551615) :
    Calls Ybaf.prog 4 #[.int .u64 n, .int .u64 e, .int .i64 line, .int .i64 gid, .string fname, .string gname] w fun e w' => e = .returned (.bool true) ∧ Below w.heap.size w w' := by
  obtain ⟨m, hm, hm0, hm1⟩ := masked n hn0 hn1
  obtain ⟨m', hm', hm0', hm1'⟩ := masked e he0 he1
  clear hn0 hn1 he0 he1
  have ha := assert53
  by_cases hz : m = 0
  · subst hz
    have hr : m'.tmod 1 = 0 := by rw [Int.tmod_eq_emod_of_nonneg hm0']; omega
    go_enter Ybaf.func4, Ybaf.ntmps4
    go_wp2_with fail
    refine (cg_any _ _ _ _).mono ?_
    rintro e w' ⟨rfl, rfl⟩
    obtain ⟨m1, m2, m3, m4, m5, mB⟩ := made_heap w line gid 9223372036854775807 fname gname
    have HC : Hid (Calls Ybaf.prog 6 _ _ _) := add_over' F' w.heap.size _ _ _ _ _ line gid fname gname 9223372036854775807 1 (made w line gid 9223372036854775807 fname gname) (by exact hF) (by omega) (by omega) (by omega) (cellOf m5 rfl) (cellOf m5 rfl) (cellOf m4 rfl) (cellOf m3 rfl) (cellOf m3 rfl) (cellOf m3 rfl) (cellOf m2 rfl) (cellOf m2 rfl) (cellOf m1 rfl)
    have q1 := cellOf (i := 1) m5 rfl
    have HQ : Hid (_ = _) := q1
    have HB : Hid (Below w.heap.size w (made w line gid 9223372036854775807 fname gname)) := mB
    clear m1 m2 m3 m4 m5 mB q1
    go_wp2_with fail
    refine HC.out.mono ?_
    rintro e w2 ⟨X, rfl, hk, x0, x1, x2, hB⟩
    have q1 := hk _ _ _ HQ.out
    have HB2 : Hid (Below (made w line gid 9223372036854775807 fname gname).heap.size (made w line gid 9223372036854775807 fname gname) w2) := hB
    clear hk hB HQ HC
    go_wp2
    go_ret
    exact ⟨rfl, HB.out.trans (HB2.out.mono HB.out.size)⟩
  · obtain ⟨d, hd, hd0, hd1⟩ := remd m' m hm0' (by omega)
    go_enter Ybaf.func4, Ybaf.ntmps4
    go_wp2_with fail
    refine (cg_any _ _ _ _).mono ?_
    rintro e w' ⟨rfl, rfl⟩
    obtain ⟨m1, m2, m3, m4, m5, mB⟩ := made_heap w line gid (9223372036854775807 - d) fname gname
    have HC : Hid (Calls Ybaf.prog 6 _ _ _) := add_over' F' w.heap.size _ _ _ _ _ line gid fname gname (9223372036854775807 - d) m (made w line gid (9223372036854775807 - d) fname gname) (by exact hF) hm0 hm1 (by omega) (cellOf m5 rfl) (cellOf m5 rfl) (cellOf m4 rfl) (cellOf m3 rfl) (cellOf m3 rfl) (cellOf m3 rfl) (cellOf m2 rfl) (cellOf m2 rfl) (cellOf m1 rfl)
    have q1 := cellOf (i := 1) m5 rfl
    have HQ : Hid (_ = _) := q1
    have HB : Hid (Below w.heap.size w (made w line gid (9223372036854775807 - d) fname gname)) := mB
    clear m1 m2 m3 m4 m5 mB q1
    go_wp2_with fail
    refine HC.out.mono ?_
    rintro e w2 ⟨X, rfl, hk, x0, x1, x2, hB⟩
    have q1 := hk _ _ _ HQ.out
    have HB2 : Hid (Below (made w line gid (9223372036854775807 - d) fname gname).heap.size (made w line gid (9223372036854775807 - d) fname gname) w2) := hB
    clear hk hB HQ HC
    go_wp2
    go_ret
    exact ⟨rfl, HB.out.trans (HB2.out.mono HB.out.size)⟩
end Go.Proofs.YbulkacjcFmt.Add
