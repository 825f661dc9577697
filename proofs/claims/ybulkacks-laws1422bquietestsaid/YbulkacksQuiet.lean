import Derived.Test.YbulkacksMem
import Derived.Maps.RangeRun
namespace Go.Proofs.Ybulkacks.Q
open Go.RowKit Go.PtrMap

/-- The slice that came in. -/
def Data (w : World) (a : Option Addr) (n : Nat) (last : Nat → Int) (wt okb : Nat → Bool) : Prop :=
  0 < n → ∃ B o, a = some ⟨B, o, none⟩ ∧ B < w.heap.size ∧ ∀ j, j < n → w.cell? ⟨B, o + j * 3, none⟩ = some (.int .i64 (last j)) ∧ w.cell? ⟨B, o + j * 3 + 1, none⟩ = some (.bool (wt j)) ∧ w.cell? ⟨B, o + j * 3 + 2, none⟩ = some (.bool (okb j))

abbrev soOf (N : Nat) (last : Nat → Int) (wt : Nat → Bool) (j : Nat) : Obj := streamObj (N + 1 + 1) j (last j) (bit (wt j))

def cnt (S wt : Nat → Bool) (j : Nat) : Int := if S j && wt j then 1 else 0

/-- The memory while quietestLocked runs: S: the streams that it has come to. -/
structure Run (w : World) (a : Option Addr) (n cap : Nat) (last : Nat → Int) (wt : Nat → Bool) (S : Nat → Bool) (wx : World) : Prop where
  st : St w a n cap n n n (soOf w.heap.size last wt) wx
  calls : wx.rowIs (w.heap.size + 5 + n) 3 n (fun j => .int .i64 (cnt S wt j))
  cv : wx.heap[w.heap.size + 5 + n + 1]? = some (.cells #[.slice (some ⟨w.heap.size + 5 + n, 0, none⟩) n n] 65)
  bad : wx.heap[w.heap.size + 5 + n + 1 + 1]? = some (.cells #[.bool false] 4)

section
variable {w : World} {a : Option Addr} {n cap : Nat} {last : Nat → Int} {wt okb : Nat → Bool} {S : Nat → Bool} {wx wy : World}

theorem Run.keep (h : Run w a n cap last wt S wx) (hb : ∀ b, b < w.heap.size + 5 + n + 3 → wy.heap[b]? = wx.heap[b]?) (hB : Below w.heap.size w wy) : Run w a n cap last wt S wy :=
  ⟨h.st.keep (fun b hb' => hb b (by omega)) hB, h.calls.of_block (hb _ (by omega)), (hb _ (by omega)).trans h.cv, (hb _ (by omega)).trans h.bad⟩

theorem Run.drewN (h : Run w a n cap last wt S wx) (m : Nat) : Run w a n cap last wt S (wx.drewN m) := ⟨h.st.drewN m, h.calls, h.cv, h.bad⟩

/-- Stream i has been come to. -/
def visit (S : Nat → Bool) (i j : Nat) : Bool := S j || j == i

theorem Run.skip (h : Run w a n cap last wt S wx) {i : Nat} (hi : wt i = false) : Run w a n cap last wt (visit S i) wx := by
  refine ⟨h.st, h.calls.congr fun j _ => ?_, h.cv, h.bad⟩
  by_cases e : j = i
  · subst e; simp [cnt, hi]
  · simp [cnt, visit, e]

theorem Run.call (h : Run w a n cap last wt S wx) {i : Nat} (hi : wt i = true) : Run w a n cap last wt (visit S i) (wx.setCell ⟨w.heap.size + 5 + n, i, none⟩ (.int .i64 1)) := by
  have hne : ∀ b, b ≠ w.heap.size + 5 + n → (wx.setCell ⟨w.heap.size + 5 + n, i, none⟩ (.int .i64 1)).heap[b]? = wx.heap[b]? := fun b hb => Deep.blk_setCell_other _ _ _ _ hb
  refine ⟨h.st.keep (fun b hb => hne b (by omega)) (h.st.below.setCell (by show w.heap.size ≤ w.heap.size + 5 + n; omega) _), (h.calls.set _ _).congr fun j _ => ?_, (hne _ (by omega)).trans h.cv, (hne _ (by omega)).trans h.bad⟩
  by_cases e : j = i
  · subst e; simp [cnt, visit, hi]
  · simp [cnt, visit, e]
end

theorem eq49 (b : Nat) (w : World) : (binOp .neq 49 (ptr b) (ptr b)).run Yba.prog w = .ok (.bool false) w := by
  obtain ⟨j, hj, _⟩ := pointee49
  have h : ∀ d : Nat, (Op.equalIn (d + 1) 49 (ptr b) (ptr b)).run Yba.prog w = .ok true w := fun d => by
    simp [Op.equalIn, run_underlying Yba.underlying49, sizeOf, typeInfo, hj, run_sameAddr_same]
  simp only [binOp]
  simp [Op.equal, Op.maxDepth, h 9999]

set_option maxRecDepth 100000 in
set_option maxHeartbeats 1000000 in
/-- The closure: stream i, not come to yet. -/
theorem ok_any (w : World) (a : Option Addr) (n cap : Nat) (last : Nat → Int) (wt okb S : Nat → Bool) (wx : World) (hn : n ≤ 1024) (hd : Data w a n last wt okb) (hr : Run w a n cap last wt S wx) (i : Nat) (hi : i < n) (hS : S i = false) :
    Calls Yba.prog 6 #[ptr (w.heap.size + 5 + i), ptr (w.heap.size + 5 + n + 1 + 1), ptr (w.heap.size + 5 + n + 1), ptr (w.heap.size + 1 + 1 + 1 + 1), ptr w.heap.size] wx fun e w' =>
      e = .returned (.bool (okb i)) ∧ wx.setCell ⟨w.heap.size + 5 + n, i, none⟩ (.int .i64 1) = w' := by
  obtain ⟨B, o, rfl, hB, hdat⟩ := hd (by omega)
  have x2 : wx.cell? ⟨B, o + i * 3 + 2, none⟩ = some (.bool (okb i)) := by rw [hr.st.below.cell (p := ⟨B, o + i * 3 + 2, none⟩) hB]; exact (hdat i hi).2.2
  have x2' : (wx.setCell ⟨w.heap.size + 5 + n, i, none⟩ (.int .i64 1)).cell? ⟨B, o + i * 3 + 2, none⟩ = some (.bool (okb i)) := cell_set_far (by omega) x2
  have b0 := cellOf (i := 0) hr.st.box rfl
  have b0' : (wx.setCell ⟨w.heap.size + 5 + n, i, none⟩ (.int .i64 1)).cell? ⟨w.heap.size, 0, none⟩ = some (.slice (some ⟨B, o, none⟩) n cap) := cell_set_far (by omega) b0
  have s2 := cellOf (i := 2) (hr.st.str i hi) rfl
  have c0 := cellOf (i := 0) hr.cv rfl
  have l0 := cellOf (i := 0) hr.st.lst rfl
  have li := hr.st.row.cell hi
  simp only [hi, if_true] at li
  have ci := hr.calls.cell hi
  have hz : cnt S wt i = 0 := by simp [cnt, hS]
  rw [hz] at ci
  have cf := hr.calls.frozen i
  have hq := eq49
  clear hr hd hdat hz
  go_enter Yba.func6, Yba.ntmps6
  go_wp2
  go_ret
  exact ⟨rfl, rfl⟩

/-- The entries of the map. -/
abbrev esOf (N n : Nat) : Array MapEntry := (ents ptr (.agg #[]) (keysOf N n)).toArray

theorem es_mem {N n : Nat} {e : MapEntry} (h : e ∈ (esOf N n).toList) : ∃ i, i < n ∧ e = { key := ptr (N + 5 + i), val := .agg #[], born := i } := by
  simp only [ents, List.mem_map] at h
  obtain ⟨p, hp, rfl⟩ := h
  obtain ⟨j, hj, rfl⟩ := keysOf_mem hp
  exact ⟨j, hj, rfl⟩

theorem es_of {N n i : Nat} (h : i < n) : ({ key := ptr (N + 5 + i), val := .agg #[], born := i } : MapEntry) ∈ (esOf N n).toList := by
  simp only [ents, List.mem_map]
  exact ⟨(N + 5 + i, i), by simp only [keysOf, List.mem_map, List.mem_range]; exact ⟨i, h, rfl⟩, rfl⟩

theorem es_born (N n : Nat) : (esOf N n).toList.map (·.born) = List.range n := by
  simp [ents, keysOf, Function.comp_def]

theorem es_nodup (N n : Nat) : ((esOf N n).toList.map (·.born)).Nodup := by
  rw [es_born]; exact List.nodup_range

theorem left_less {es : Array MapEntry} {seen : Array Nat} {e : MapEntry} (he : e ∈ (leftOf es seen).toList) : (leftOf es (seen.push e.born)).size < (leftOf es seen).size := by
  have hsub : leftOf es (seen.push e.born) = (leftOf es seen).filter fun x => !(x.born == e.born) := by
    unfold leftOf
    rw [Array.filter_filter]
    congr 1
    funext x
    by_cases hx : x.born = e.born <;> simp [hx]
  rw [hsub]
  rcases Nat.lt_or_ge ((leftOf es seen).filter fun x => !(x.born == e.born)).size (leftOf es seen).size with h | h
  · exact h
  · exfalso
    have hle : ((leftOf es seen).filter fun x => !(x.born == e.born)).size ≤ (leftOf es seen).size := Array.size_filter_le
    have := Array.filter_size_eq_size.1 (Nat.le_antisymm hle h)
    have h2 := this e (by simpa using he)
    simp at h2

/-- The quietest among the streams of S that wait and are ok. -/
def Best (N n : Nat) (last : Nat → Int) (wt okb S : Nat → Bool) (v : Value) : Prop :=
  (v = .pointer none ∧ ∀ j, j < n → S j = true → wt j = true → okb j = true → False) ∨
  ∃ q, q < n ∧ v = ptr (N + 5 + q) ∧ wt q = true ∧ okb q = true ∧ ∀ j, j < n → S j = true → wt j = true → okb j = true → last q ≤ last j

theorem Best.skip {N n : Nat} {last : Nat → Int} {wt okb S : Nat → Bool} {v : Value} {i : Nat} (h : Best N n last wt okb S v) (hi : (wt i && okb i) = false) : Best N n last wt okb (visit S i) v := by
  have hv : ∀ j, visit S i j = true → wt j = true → okb j = true → S j = true := fun j h1 h2 h3 => by
    simp only [visit, Bool.or_eq_true, beq_iff_eq] at h1
    rcases h1 with h1 | rfl
    · exact h1
    · simp [h2, h3] at hi
  rcases h with ⟨rfl, h⟩ | ⟨q, hq, rfl, h1, h2, h⟩
  · exact .inl ⟨rfl, fun j hj a b c => h j hj (hv j a b c) b c⟩
  · exact .inr ⟨q, hq, rfl, h1, h2, fun j hj a b c => h j hj (hv j a b c) b c⟩

theorem visit_cases {S : Nat → Bool} {i j : Nat} (h : visit S i j = true) : S j = true ∨ j = i := by
  simpa [visit] using h

theorem best_first {N n : Nat} {last : Nat → Int} {wt okb S : Nat → Bool} {i : Nat} (hi : i < n) (hwo : (wt i && okb i) = true) (h : ∀ j, j < n → S j = true → wt j = true → okb j = true → False) : Best N n last wt okb (visit S i) (ptr (N + 5 + i)) := by
  simp only [Bool.and_eq_true] at hwo
  refine .inr ⟨i, hi, rfl, hwo.1, hwo.2, fun j hj a b c => ?_⟩
  rcases visit_cases a with a | rfl
  · exact (h j hj a b c).elim
  · exact Int.le_refl _

theorem best_new {N n : Nat} {last : Nat → Int} {wt okb S : Nat → Bool} {i q : Nat} (hi : i < n) (hwo : (wt i && okb i) = true) (h : ∀ j, j < n → S j = true → wt j = true → okb j = true → last q ≤ last j) (hlq : last i < last q) : Best N n last wt okb (visit S i) (ptr (N + 5 + i)) := by
  simp only [Bool.and_eq_true] at hwo
  refine .inr ⟨i, hi, rfl, hwo.1, hwo.2, fun j hj a b c => ?_⟩
  rcases visit_cases a with a | rfl
  · have := h j hj a b c; omega
  · exact Int.le_refl _

theorem best_old {N n : Nat} {last : Nat → Int} {wt okb S : Nat → Bool} {i q : Nat} (hq : q < n) (h1 : wt q = true) (h2 : okb q = true) (h : ∀ j, j < n → S j = true → wt j = true → okb j = true → last q ≤ last j) (hlq : last q ≤ last i) : Best N n last wt okb (visit S i) (ptr (N + 5 + q)) := by
  refine .inr ⟨q, hq, rfl, h1, h2, fun j hj a b c => ?_⟩
  rcases visit_cases a with a | rfl
  · exact h j hj a b c
  · exact hlq

set_option maxRecDepth 100000 in
set_option maxHeartbeats 1000000 in
theorem quietest (w : World) (a : Option Addr) (n cap : Nat) (last : Nat → Int) (wt okb : Nat → Bool) (wx : World) (hn : n ≤ 1024) (hd : Data w a n last wt okb) (hr : Run w a n cap last wt (fun _ => false) wx) (hsz : wx.heap.size = w.heap.size + 5 + n + 3) :
    Calls Yba.prog 7 #[ptr (w.heap.size + 1 + 1), .func (.func 6) #[] #[ptr (w.heap.size + 5 + n + 1 + 1), ptr (w.heap.size + 5 + n + 1), ptr (w.heap.size + 1 + 1 + 1 + 1), ptr w.heap.size]] wx fun e w' =>
      ∃ v S, e = .returned v ∧ Run w a n cap last wt S w' ∧ (∀ j, j < n → S j = true) ∧ Best w.heap.size n last wt okb S v := by
  have hi := cellOf (i := 14) hr.st.inn rfl
  have hrg := run_range_map (P := Yba.prog) wx 24 49 30 (w.heap.size + 1) _ n Yba.underlying24 hr.st.map
  have HR : Hid (Run w a n cap last wt (fun _ => false) wx) := hr
  have HD : Hid (Data w a n last wt okb) := hd
  have HZ : Hid (wx.heap.size = w.heap.size + 5 + n + 3) := hsz
  clear hr hd
  rw [hsz] at hrg
  clear hsz
  go_enter Yba.func7, Yba.ntmps7
  go_wp2
  clear hrg hi
  go_loopg [5] n (fun g qv wr => ∃ S seen, Run w a n cap last wt S wr ∧ wr.heap[w.heap.size + 5 + n + 3]? = some (.mapIter (some (w.heap.size + 1)) n seen n) ∧ (∀ j, j < n → seen.contains j = S j) ∧ (leftOf (esOf w.heap.size n) seen).size = g ∧ Best w.heap.size n last wt okb S qv)
  case atStart =>
    refine ⟨fun _ => false, #[], HR.out.keep (fun b hb => Deep.blk_alloc_lt _ _ _ (by rw [HZ.out]; exact hb)) (HR.out.st.below.alloc HR.out.st.below.size _), ?_, fun j _ => by simp, ?_, .inl ⟨rfl, fun j _ h => by cases h⟩⟩
    · rw [← HZ.out]; exact Deep.blk_alloc_new _ _
    · have hl : leftOf (esOf w.heap.size n) #[] = esOf w.heap.size n := Array.filter_eq_self.2 (fun _ _ => by simp)
      rw [hl]; simp [ents, keysOf]
  case round =>
    clear HR HZ
    obtain ⟨S, seen, hrun, hit, hseen, hleft, hbest⟩ := hrel
    have hmapb := hrun.st.map
    have hold : ∀ x ∈ (esOf w.heap.size n).toList, x.born < n := fun x hx => by
      obtain ⟨i, hi, rfl⟩ := es_mem hx
      exact hi
    have HRun : Hid (Run w a n cap last wt S wr) := hrun
    have HSeen : Hid (∀ j, j < n → seen.contains j = S j) := hseen
    have HBest : Hid (Best w.heap.size n last wt okb S u5) := hbest
    rcases run_next_at (P := Yba.prog) wr 0 _ _ n n seen _ n hit hmapb hold (Nat.le_refl _) with ⟨h0, hnx⟩ | ⟨e, he, w1, hw1, hnx⟩
    · clear hrun hseen hbest hmapb hold hit
      go_wp2
      go_ret
      refine ⟨_, S, rfl, HRun.out, fun j hj => ?_, HBest.out⟩
      rw [← HSeen.out j hj]
      cases hc : seen.contains j with
      | true => rfl
      | false =>
        exfalso
        have hm : ({ key := ptr (w.heap.size + 5 + j), val := .agg #[], born := j } : MapEntry) ∈ (leftOf (esOf w.heap.size n) seen).toList := by
          have := es_of (N := w.heap.size) hj
          simp only [leftOf, Array.toList_filter, List.mem_filter]
          exact ⟨this, by simp only [hc]; rfl⟩
        have := Array.length_toList (xs := leftOf (esOf w.heap.size n) seen)
        rw [h0] at this
        rw [List.eq_nil_of_length_eq_zero this] at hm
        cases hm
    · have hlt := left_less he
      have he2 : e ∈ (esOf w.heap.size n).toList ∧ seen.contains e.born = false := by
        simp only [leftOf, Array.toList_filter, List.mem_filter] at he
        exact ⟨he.1, by simpa using he.2⟩
      obtain ⟨i, hi, rfl⟩ := es_mem he2.1
      have hSi : S i = false := by rw [← hseen i hi]; exact he2.2
      obtain ⟨wi, hwi⟩ : ∃ wi, wi = ChangeMaps.setBlock w1 (w.heap.size + 5 + n + 3) (.mapIter (some (w.heap.size + 1)) n (seen.push i) n) := ⟨_, rfl⟩
      have hkeep : ∀ b, b < w.heap.size + 5 + n + 3 → wi.heap[b]? = wr.heap[b]? := fun b hb => by
        rw [hwi]
        show (w1.heap.setIfInBounds _ _)[b]? = _
        rw [Array.getElem?_setIfInBounds, if_neg (by omega)]
        rcases hw1 with rfl | rfl <;> rfl
      have hBel : Below w.heap.size w wi := by
        have hb := hrun.st.below
        have hs1 : w1.heap.size = wr.heap.size ∧ w1.os = wr.os ∧ w1.tape = wr.tape ∧ w1.output = wr.output := by rcases hw1 with rfl | rfl <;> exact ⟨rfl, rfl, rfl, rfl⟩
        refine ⟨?_, ?_, ?_, ?_, fun b hb' => (hkeep b (by omega)).trans (hb.block b hb')⟩
        · rw [hwi]; exact hs1.2.1.trans hb.os
        · rw [hwi]; exact hs1.2.2.1.trans hb.tape
        · rw [hwi]; exact hs1.2.2.2.trans hb.output
        · rw [hwi]
          show w.heap.size ≤ (w1.heap.setIfInBounds _ _).size
          rw [Array.size_setIfInBounds, hs1.1]; exact hb.size
      have hRi : Run w a n cap last wt S wi := hrun.keep hkeep hBel
      have hiti : wi.heap[w.heap.size + 5 + n + 3]? = some (.mapIter (some (w.heap.size + 1)) n (seen.push i) n) := by
        rw [hwi]
        show (w1.heap.setIfInBounds _ _)[_]? = _
        have hlt1 : w.heap.size + 5 + n + 3 < w1.heap.size := by
          have := ltOf hit
          rcases hw1 with rfl | rfl <;> exact this
        rw [Array.getElem?_setIfInBounds, if_pos rfl, if_pos hlt1]
      have hen := run_entry_at (P := Yba.prog) wi _ _ n seen _ n _ hiti hRi.st.map he2.1 (es_nodup _ _)
      have hseen' : ∀ j, j < n → (seen.push i).contains j = visit S i j := fun j hj => by
        show _ = (S j || j == i)
        rw [← hseen j hj]
        by_cases hx : j = i <;> simp [hx]
      have z4 := cellOf (i := 4) (hRi.st.str i hi) rfl
      have z3 := cellOf (i := 3) (hRi.st.str i hi) rfl
      rw [← hwi] at hnx
      have HRi : Hid (Run w a n cap last wt S wi) := hRi
      have HIt : Hid (wi.heap[w.heap.size + 5 + n + 3]? = some (.mapIter (some (w.heap.size + 1)) n (seen.push i) n)) := hiti
      have HSeen' : Hid (∀ j, j < n → (seen.push i).contains j = visit S i j) := hseen'
      have HLt : Hid ((leftOf (esOf w.heap.size n) (seen.push i)).size < gk) := by rw [← hleft]; exact hlt
      clear hrun hit hseen hleft hbest hmapb hold HRun HSeen he he2 hlt hwi hkeep hBel hRi hiti hseen' hw1
      go_upto_region 5 with fail
      go_cut [26] (fun t wd => t = .bool (!(wt i && okb i)) ∧ Run w a n cap last wt (visit S i) wd ∧ wd.heap[w.heap.size + 5 + n + 3]? = some (.mapIter (some (w.heap.size + 1)) n (seen.push i) n))
      case first =>
        cases hwt : wt i with
        | false =>
          rw [hwt] at z4
          go_wp2_with (go_at_call 12; refine (loadb (w.heap.size + 5 + i) 4 false _ z4).mono ?_; rintro e w' ⟨rfl, rfl⟩)
          go_meet
          exact ⟨by simp [hwt], HRi.out.skip hwt, HIt.out⟩
        | true =>
          rw [hwt] at z4
          go_wp2_with (first | (go_at_call 12; refine (loadb (w.heap.size + 5 + i) 4 true _ z4).mono ?_; rintro e w' ⟨rfl, rfl⟩) | (go_at_call 6; refine (ok_any w a n cap last wt okb S _ hn HD.out HRi.out i hi hSi).mono ?_; rintro e w' ⟨rfl, rfl⟩))
          go_meet
          refine ⟨by simp [hwt], HRi.out.call hwt, ?_⟩
          rw [Deep.blk_setCell_other _ _ _ _ (by show w.heap.size + 5 + n + 3 ≠ w.heap.size + 5 + n; omega)]
          exact HIt.out
      case rest =>
        obtain ⟨rfl, hR2, hI2⟩ := hcut
        clear HRi HIt z3 z4 hnx hen
        have HR2 : Hid (Run w a n cap last wt (visit S i) wc) := hR2
        have HI2 : Hid (wc.heap[w.heap.size + 5 + n + 3]? = some (.mapIter (some (w.heap.size + 1)) n (seen.push i) n)) := hI2
        have zi := cellOf (i := 3) (hR2.st.str i hi) rfl
        have zq := fun q (hq : q < n) => cellOf (i := 3) (hR2.st.str q hq) rfl
        have HZq : Hid (∀ q, q < n → wc.cell? ⟨w.heap.size + 5 + q, 3, none⟩ = some (.int .i64 (last q))) := fun q hq => by simpa using zq q hq
        clear hR2 hI2 zq
        cases hwo : (wt i && okb i) with
        | false =>
          go_wp2
          go_roundg ((leftOf (esOf w.heap.size n) (seen.push i)).size)
          case measure => exact HLt.out
          case rel => exact ⟨visit S i, seen.push i, HR2.out, HI2.out, HSeen'.out, rfl, HBest.out.skip hwo⟩
        | true =>
          rcases HBest.out with ⟨rfl, hno⟩ | ⟨q, hq, rfl, hwq, hoq, hle⟩
          · have HNo : Hid (∀ j, j < n → S j = true → wt j = true → okb j = true → False) := hno
            clear hno
            go_upto_region 6 with fail
            go_quiet (fail)
            go_wp2
            go_roundg ((leftOf (esOf w.heap.size n) (seen.push i)).size)
            case measure => exact HLt.out
            case rel => exact ⟨visit S i, seen.push i, HR2.out.drewN _, HI2.out, HSeen'.out, rfl, best_first hi hwo HNo.out⟩
          · have zq := HZq.out q hq
            have HBq : Hid (q < n ∧ wt q = true ∧ okb q = true ∧ ∀ j, j < n → S j = true → wt j = true → okb j = true → last q ≤ last j) := ⟨hq, hwq, hoq, hle⟩
            clear hle hwq hoq
            by_cases hlq : last i < last q
            · go_upto_region 6 with fail
              go_quiet (first | (go_at_call_of 8 i; exact Calls.quiet_of_same (load64 _ _ _ _ (by exact zi))) | (go_at_call_of 8 q; exact Calls.quiet_of_same (load64 _ _ _ _ (by exact zq))))
              go_wp2
              go_roundg ((leftOf (esOf w.heap.size n) (seen.push i)).size)
              case measure => exact HLt.out
              case rel => exact ⟨visit S i, seen.push i, HR2.out.drewN _, HI2.out, HSeen'.out, rfl, best_new hi hwo HBq.out.2.2.2 hlq⟩
            · go_upto_region 6 with fail
              go_quiet (first | (go_at_call_of 8 i; exact Calls.quiet_of_same (load64 _ _ _ _ (by exact zi))) | (go_at_call_of 8 q; exact Calls.quiet_of_same (load64 _ _ _ _ (by exact zq))))
              go_wp2
              go_roundg ((leftOf (esOf w.heap.size n) (seen.push i)).size)
              case measure => exact HLt.out
              case rel => exact ⟨visit S i, seen.push i, HR2.out.drewN _, HI2.out, HSeen'.out, rfl, best_old HBq.out.1 HBq.out.2.1 HBq.out.2.2.1 HBq.out.2.2.2 (by omega)⟩
end Go.Proofs.Ybulkacks.Q
