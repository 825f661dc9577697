import Derived.Test.YbulkachmLawA
import Derived.BigRegion
namespace Go.Proofs.Ybulkachm.Adopt
open Go.RowKit Go.PtrMap

/-- What holds between two rounds, on a scope that has not ended. -/
structure Inv (N : Nat) (w : World) (l : List (Nat × Nat)) (ch : Value) (p : Int) : Prop where
  size : N + 1 + 1 + 1 + 1 + 1 + 1 < w.heap.size
  pool : Pool N w
  scope : w.heap[N + 1 + 1 + 1 + 1 + 1]? = some (scopeObj 0 (.pointer none) ch p)
  seen : ∃ sn : Array Value, w.heap[N + 1 + 1 + 1 + 1 + 1 + 1]? = some (.cells sn 48) ∧ ∀ q, q < 4 → sn[q]? = some (.bool (has l (N + 1 + q)))
  kids : Kids w ch l
  kid : ∀ q ∈ l, IsChild w q.1
  big : ∀ m, ch = .map (some m) → N + 1 + 1 + 1 + 1 + 1 + 1 < m

theorem Inv.of {N : Nat} {w w' : World} {l : List (Nat × Nat)} {ch : Value} {p : Int} (h : Inv N w l ch p) (hz : w.heap.size ≤ w'.heap.size) (hk : ∀ k, k < w.heap.size → w'.heap[k]? = w.heap[k]?) : Inv N w' l ch p := by
  have hs := h.size
  refine ⟨by omega, h.pool.of fun k _ _ => hk k (by omega), by rw [hk _ (by omega)]; exact h.scope, ?_, ?_, ?_, h.big⟩
  · obtain ⟨sn, h1, h2⟩ := h.seen
    exact ⟨sn, by rw [hk _ (by omega)]; exact h1, h2⟩
  · rcases h.kids with h1 | ⟨m, clock, h1, h2⟩
    · exact .inl h1
    · exact .inr ⟨m, clock, h1, by rw [hk m (Array.getElem?_eq_some_iff.1 h2).1]; exact h2⟩
  · intro q hq
    obtain ⟨c, hc⟩ := h.kid q hq
    exact ⟨c, by rw [hk _ (Array.getElem?_eq_some_iff.1 hc).1]; exact hc⟩

/-- The look-up of child j, in whatever world agrees below. -/
theorem Inv.look {N : Nat} {w W : World} {l : List (Nat × Nat)} {m : Nat} {p : Int} (h : Inv N w l (.map (some m)) p) (hz : w.heap.size ≤ W.heap.size) (hk : ∀ k, k < w.heap.size → W.heap[k]? = w.heap[k]?) (j : Nat) (hj : j < 4) :
    (Instr.lookup 40 (.map (some m)) (key (N + 1 + j)) true).run Yba.prog W = .ok (.tuple #[.agg #[], .bool (has l (N + 1 + j))]) W := by
  have h' := h.of hz hk
  rcases h'.kids with ⟨h1, _⟩ | ⟨m', clock, h1, h2⟩
  · cases h1
  · obtain rfl : m = m' := by simpa using h1
    exact run_lookup (keys66 W) Yba.underlying40 (.agg #[]) (by kernel_rfl) h'.kid h2 (h'.pool.kid j hj)

theorem seven (w : World) (o0 o1 o2 o3 o4 o5 o6 : Obj) {W : World} (hW : W = ((((((w.alloc o0).alloc o1).alloc o2).alloc o3).alloc o4).alloc o5).alloc o6) :
    W.heap[w.heap.size]? = some o0 ∧ W.heap[w.heap.size + 1]? = some o1 ∧ W.heap[w.heap.size + 1 + 1]? = some o2 ∧ W.heap[w.heap.size + 1 + 1 + 1]? = some o3 ∧ W.heap[w.heap.size + 1 + 1 + 1 + 1]? = some o4 ∧
      W.heap[w.heap.size + 1 + 1 + 1 + 1 + 1]? = some o5 ∧ W.heap[w.heap.size + 1 + 1 + 1 + 1 + 1 + 1]? = some o6 ∧ W.heap.size = w.heap.size + 7 ∧ Below w.heap.size w W := by
  subst hW
  refine ⟨?_, ?_, ?_, ?_, ?_, ?_, ?_, ?_, ?_⟩
  · iterate 6 rw [at_old _ _ _ (by simp only [World.size_alloc]; omega)]
    exact at_new _ _ _ rfl
  · iterate 5 rw [at_old _ _ _ (by simp only [World.size_alloc]; omega)]
    exact at_new _ _ _ (by simp)
  · iterate 4 rw [at_old _ _ _ (by simp only [World.size_alloc]; omega)]
    exact at_new _ _ _ (by simp)
  · iterate 3 rw [at_old _ _ _ (by simp only [World.size_alloc]; omega)]
    exact at_new _ _ _ (by simp)
  · iterate 2 rw [at_old _ _ _ (by simp only [World.size_alloc]; omega)]
    exact at_new _ _ _ (by simp)
  · rw [at_old _ _ _ (by simp only [World.size_alloc]; omega)]
    exact at_new _ _ _ (by simp)
  · exact at_new _ _ _ (by simp)
  · simp
  · refine Below.alloc (Below.alloc (Below.alloc (Below.alloc (Below.alloc (Below.alloc (Below.alloc (Below.refl _ _) ?_ _) ?_ _) ?_ _) ?_ _) ?_ _) ?_ _) ?_ _
    all_goals (first | omega | (simp only [World.size_alloc]; omega))

/-- The peak behind a child's coming. -/
def top (p : Int) (n : Nat) : Int := if p < (n : Int) then (n : Int) else p

/-- What holds behind the call of adopt: the law's own table has not been told yet. -/
structure Mid (N : Nat) (w : World) (l l' : List (Nat × Nat)) (m : Nat) (p : Int) : Prop where
  size : N + 1 + 1 + 1 + 1 + 1 + 1 < w.heap.size
  pool : Pool N w
  scope : w.heap[N + 1 + 1 + 1 + 1 + 1]? = some (scopeObj 0 (.pointer none) (.map (some m)) p)
  seen : ∃ sn : Array Value, w.heap[N + 1 + 1 + 1 + 1 + 1 + 1]? = some (.cells sn 48) ∧ ∀ q, q < 4 → sn[q]? = some (.bool (has l (N + 1 + q)))
  kids : ∃ clock, w.heap[m]? = some (.map (ents key (.agg #[]) l').toArray clock)
  kid : ∀ q ∈ l', IsChild w q.1
  big : N + 1 + 1 + 1 + 1 + 1 + 1 < m

theorem mid_of {N q m : Nat} {w w1 : World} {l l' : List (Nat × Nat)} {ch : Value} {p : Int} (hi : Inv N w l ch p) (hq : q < 4) (ht : Took (N + 1 + 1 + 1 + 1 + 1) (N + 1 + q) p ch l w m l' w1) : Mid N w1 l l' m (top p l'.length) := by
  have hs := hi.size
  have hbig : N + 1 + 1 + 1 + 1 + 1 + 1 < m := by
    rcases ht.which with h | h
    · omega
    · exact hi.big m h
  have hz := ht.only.size
  have hk := ht.only.block
  refine ⟨by omega, hi.pool.of fun k h1 h2 => hk k (by omega) (by omega) (by omega), ht.scope, ?_, ht.kids, ?_, hbig⟩
  · obtain ⟨sn, h1, h2⟩ := hi.seen
    exact ⟨sn, by rw [hk _ (by omega) (by omega) (by omega)]; exact h1, h2⟩
  · intro x hx
    have hc : IsChild w x.1 := by
      rcases ht.mem x hx with h | h
      · exact hi.kid x h
      · rw [h]; exact hi.pool.kid q hq
    obtain ⟨c, hc⟩ := hc
    have h1 : x.1 ≠ N + 1 + 1 + 1 + 1 + 1 := by
      intro e
      rw [e, hi.scope] at hc
      simp at hc
    have h2 : x.1 ≠ m := by
      intro e
      rcases ht.which with h | h
      · have := (Array.getElem?_eq_some_iff.1 hc).1
        omega
      · rcases hi.kids with ⟨h', _⟩ | ⟨m', clock, h', h''⟩
        · rw [h] at h'; cases h'
        · obtain rfl : m = m' := by rw [h] at h'; simpa using h'
          rw [e, h''] at hc
          simp at hc
    exact ⟨c, by rw [hk _ (Array.getElem?_eq_some_iff.1 hc).1 h1 h2]; exact hc⟩

theorem Mid.old {N q m : Nat} {w : World} {l l' : List (Nat × Nat)} {p : Int} (h : Mid N w l l' m p) (hhas : ∀ b, has l' b = (has l b || N + 1 + q == b)) (hin : has l (N + 1 + q) = true) : Inv N w l' (.map (some m)) p := by
  have hsame : ∀ b, has l' b = has l b := fun b => by
    rw [hhas b]
    by_cases e : N + 1 + q = b
    · subst e; simp [hin]
    · simp [e]
  obtain ⟨sn, h1, h2⟩ := h.seen
  obtain ⟨clock, h3⟩ := h.kids
  exact ⟨h.size, h.pool, h.scope, ⟨sn, h1, fun q hq => by rw [h2 q hq, hsame]⟩, .inr ⟨m, clock, rfl, h3⟩, h.kid, fun m' e => by
    obtain rfl : m = m' := by simpa using e
    exact h.big⟩

theorem Mid.new {N q m : Nat} {w : World} {l l' : List (Nat × Nat)} {p : Int} (h : Mid N w l l' m p) (hq : q < 4) (hhas : ∀ b, has l' b = (has l b || N + 1 + q == b)) :
    Inv N (w.setCell ⟨N + 1 + 1 + 1 + 1 + 1 + 1, q, none⟩ (.bool true)) l' (.map (some m)) p := by
  obtain ⟨sn, h1, h2⟩ := h.seen
  obtain ⟨clock, h3⟩ := h.kids
  have hb := h.big
  have hs := h.size
  have hk : ∀ k, k ≠ N + 1 + 1 + 1 + 1 + 1 + 1 → (w.setCell ⟨N + 1 + 1 + 1 + 1 + 1 + 1, q, none⟩ (.bool true)).heap[k]? = w.heap[k]? := fun k hne => Below.heap_setCell w _ _ k hne
  have hz : (w.setCell ⟨N + 1 + 1 + 1 + 1 + 1 + 1, q, none⟩ (.bool true)).heap.size = w.heap.size := by simp [World.setCell]
  refine ⟨by omega, h.pool.of fun k _ _ => hk k (by omega), by rw [hk _ (by omega)]; exact h.scope, ⟨_, heap_setCell_at h1 q (.bool true), fun q' hq' => ?_⟩, .inr ⟨m, clock, rfl, by rw [hk _ (by omega)]; exact h3⟩, fun x hx => ?_, fun m' e => ?_⟩
  · have hlt : q < sn.size := (Array.getElem?_eq_some_iff.1 (h2 q hq)).1
    rw [hhas, Array.getElem?_setIfInBounds]
    by_cases e : q = q'
    · subst e; simp [hlt]
    · have e' : ¬ N + 1 + q = N + 1 + q' := by omega
      simp [e, h2 q' hq']
  · obtain ⟨c, hc⟩ := h.kid x hx
    refine ⟨c, ?_⟩
    rw [hk]
    · exact hc
    · intro e
      rw [e, h1] at hc
      simp at hc
  · obtain rfl : m = m' := by simpa using e
    exact h.big

set_option maxRecDepth 100000 in
set_option maxHeartbeats 1600000 in
theorem law_live (a : Option Addr) (len cap : Nat) (z : Nat → Int) (pk : Int) (w : World) (hl : len ≤ 1024) (hrow : Row w a len z) :
    Calls Yba.prog 3 #[.slice a len cap, .int .i64 pk, .bool false] w fun e w' => e = .returned (.bool true) ∧ Below w.heap.size w w' := by
  have HR : Hid (Row w a len z) := hrow
  clear hrow
  go_enter Yba.func3, Yba.ntmps3
  go_wp2
  refine wp_loop_rounds 5 ?_
  rw [rounds_succ]
  go_wp2
  rw [rounds_succ]
  go_wp2
  rw [rounds_succ]
  go_wp2
  rw [rounds_succ]
  go_wp2
  rw [rounds_succ]
  go_wp2_with fail
  go_loopg [12, 13, 47] len (fun g cnt xp i wr => ∃ (k : Nat) (l : List (Nat × Nat)) (ch : Value) (p : Int), g + k = len ∧ i = .int .i64 k ∧ cnt = .int .i64 l.length ∧ xp = .int .i64 p ∧ l.length ≤ k ∧ Inv w.heap.size wr l ch p ∧ Below w.heap.size w wr)
  case atStart =>
    obtain ⟨h0, h1, h2, h3, h4, h5, h6, hz, hb⟩ := seven w _ _ _ _ _ _ _ rfl
    refine ⟨0, [], .map none, pk, rfl, rfl, rfl, rfl, Nat.le_refl _, ⟨by omega, pool_made h0 h1 h2 h3 h4, h5, ⟨_, h6, fun q hq => ?_⟩, .inl ⟨rfl, rfl⟩, fun q hq => (by cases hq), fun m e => (by cases e)⟩, hb⟩
    match q, hq with
    | 0, _ => rfl
    | 1, _ => rfl
    | 2, _ => rfl
    | 3, _ => rfl
  case round =>
    obtain ⟨k, l, ch, p, hg, rfl, rfl, rfl, hlk, hinv, hbel⟩ := hrel
    by_cases hlt : k < len
    · obtain ⟨b, off, rfl, hb, hcells⟩ := HR.out (by omega)
      obtain ⟨hc0, hz0, hz1⟩ := hcells k hlt
      have hc : wr.cell? ⟨b, off + k, none⟩ = some (.int .u8 (z k)) := by rw [hbel.cell (p := ⟨b, off + k, none⟩) hb]; exact hc0
      have hpc := hinv.pool.cell (z k % 4).toNat (by omega)
      have HC : Hid (IsChild wr (w.heap.size + 1 + (z k % 4).toNat)) := hinv.pool.kid (z k % 4).toNat (by omega)
      clear hcells hc0
      have HB : Hid (Below w.heap.size w wr) := hbel
      have HI : Hid (Inv w.heap.size wr l ch p) := hinv
      clear hbel hinv
      go_wp2_with fail
      refine (adopt_live (w.heap.size + 1 + 1 + 1 + 1 + 1) (w.heap.size + 1 + (z k % 4).toNat) p ch l wr HI.out.scope HI.out.kids HI.out.kid HC.out).mono ?_
      rintro e w1 ⟨rfl, m, l', ht⟩
      have hmid := mid_of HI.out (by omega) ht
      have hlen := ht.len
      have hhas := ht.has
      have HB1 : Hid (Below w.heap.size w w1) := by
        have hz := HI.out.size
        have hb := HB.out
        exact ⟨ht.only.os.trans hb.os, ht.only.tape.trans hb.tape, ht.only.output.trans hb.output, Nat.le_trans hb.size ht.only.size, fun i hi => (ht.only.block i (by omega) (by omega) (by have := hmid.big; omega)).trans (hb.block i hi)⟩
      clear ht HI HB HC hc hpc
      have hd5 := cellOf hmid.scope 5 (.pointer none) rfl
      have hd6 := cellOf hmid.scope 6 (.map (some m)) rfl
      have hd8 := cellOf hmid.scope 8 (.int .i64 (top p l'.length)) rfl
      obtain ⟨sn, hsn, hsq⟩ := hmid.seen
      have hsc := cellOf hsn _ _ (hsq (z k % 4).toNat (by omega))
      have hsf := frozenOf hsn (z k % 4).toNat
      obtain ⟨clk, hmap⟩ := hmid.kids
      have hrl := run_len hmap
      simp only [ents, List.size_toArray, List.length_map] at hrl
      have HM : Hid (Mid w.heap.size w1 l l' m (top p l'.length)) := hmid
      have HH : Hid (∀ b, has l' b = (has l b || w.heap.size + 1 + (z k % 4).toNat == b)) := hhas
      clear hmid hhas hsn hsq hmap
      cases hh : has l (w.heap.size + 1 + (z k % 4).toNat) with
      | true =>
        rw [hh] at hsc hlen
        simp only [if_true, Nat.add_zero] at hlen
        have HI1 : Hid (Inv w.heap.size w1 l' (.map (some m)) (top p l'.length)) := HM.out.old HH.out hh
        rw [hlen] at hrl hd8 HI1
        have HL : Hid (l'.length = l.length) := hlen
        clear hlen hh HM HH
        by_cases hp : p < (l.length : Int)
        · rw [show top p l.length = (l.length : Int) from if_pos hp] at hd8 HI1
          go_wp2
          clear hd5 hd6 hd8 hsc hsf
          go_loopg [18] 4 (fun g i w2 => ∃ j : Nat, g + j = 4 ∧ i = .int .i64 j ∧ Inv w.heap.size w2 l' (.map (some m)) l.length ∧ Below w.heap.size w w2)
          case atStart => exact ⟨0, rfl, rfl, HI1.out, HB1.out⟩
          case round =>
            obtain ⟨j, hj, rfl, hi2, hb2⟩ := hrel
            by_cases hj4 : j < 4
            · have hx6 := cellOf hi2.scope 6 (.map (some m)) rfl
              have hxp := hi2.pool.cell j hj4
              obtain ⟨sn2, hsn2, hsq2⟩ := hi2.seen
              have hxs := cellOf hsn2 _ _ (hsq2 j hj4)
              have hlk1 := hi2.look (W := wr.drew) (Nat.le_refl _) (fun _ _ => rfl) j hj4
              have hlk2 := hi2.look (W := (wr.alloc (.cells #[] 31)).drew) (by simp [World.drew]) (fun k hk => Below.heap_alloc wr _ k hk) j hj4
              have hsz := hi2.size
              have hy6 : ∀ o, (wr.alloc o).cell? ⟨w.heap.size + 1 + 1 + 1 + 1 + 1, 6, none⟩ = some (.map (some m)) := fun o => by rw [World.cell?_alloc_lt wr o _ (by simp; omega)]; exact hx6
              have hyp : ∀ o, (wr.alloc o).cell? ⟨w.heap.size, j, none⟩ = some (ptr (w.heap.size + 1 + j)) := fun o => by rw [World.cell?_alloc_lt wr o _ (by simp; omega)]; exact hxp
              have hys : ∀ o, (wr.alloc o).cell? ⟨w.heap.size + 1 + 1 + 1 + 1 + 1 + 1, j, none⟩ = some (.bool (has l' (w.heap.size + 1 + j))) := fun o => by rw [World.cell?_alloc_lt wr o _ (by simp; omega)]; exact hxs
              have HI2 : Hid (Inv w.heap.size wr l' (.map (some m)) l.length) := hi2
              have HB2 : Hid (Below w.heap.size w wr) := hb2
              clear hi2 hb2 hsn2 hsq2
              go_wp2
              go_region
              all_goals
                go_wp2
                go_roundg (4 - (j + 1))
                case measure => omega
                case rel => exact ⟨j + 1, by omega, by go_num, HI2.out.of (by simp [World.drew]) (fun k hk => Below.heap_alloc wr _ k hk), (HB2.out.alloc HB2.out.size _).drew⟩
            · go_wp2
              go_roundg (len - (k + 1))
              case measure => omega
              case rel => exact ⟨k + 1, l', _, _, by omega, by go_num, by rw [HL.out]; try go_num, rfl, by rw [HL.out]; omega, hi2, hb2⟩
        · rw [show top p l.length = p from if_neg hp] at hd8 HI1
          go_wp2
          clear hd5 hd6 hd8 hsc hsf
          go_loopg [18] 4 (fun g i w2 => ∃ j : Nat, g + j = 4 ∧ i = .int .i64 j ∧ Inv w.heap.size w2 l' (.map (some m)) p ∧ Below w.heap.size w w2)
          case atStart => exact ⟨0, rfl, rfl, HI1.out, HB1.out⟩
          case round =>
            obtain ⟨j, hj, rfl, hi2, hb2⟩ := hrel
            by_cases hj4 : j < 4
            · have hx6 := cellOf hi2.scope 6 (.map (some m)) rfl
              have hxp := hi2.pool.cell j hj4
              obtain ⟨sn2, hsn2, hsq2⟩ := hi2.seen
              have hxs := cellOf hsn2 _ _ (hsq2 j hj4)
              have hlk1 := hi2.look (W := wr.drew) (Nat.le_refl _) (fun _ _ => rfl) j hj4
              have hlk2 := hi2.look (W := (wr.alloc (.cells #[] 31)).drew) (by simp [World.drew]) (fun k hk => Below.heap_alloc wr _ k hk) j hj4
              have hsz := hi2.size
              have hy6 : ∀ o, (wr.alloc o).cell? ⟨w.heap.size + 1 + 1 + 1 + 1 + 1, 6, none⟩ = some (.map (some m)) := fun o => by rw [World.cell?_alloc_lt wr o _ (by simp; omega)]; exact hx6
              have hyp : ∀ o, (wr.alloc o).cell? ⟨w.heap.size, j, none⟩ = some (ptr (w.heap.size + 1 + j)) := fun o => by rw [World.cell?_alloc_lt wr o _ (by simp; omega)]; exact hxp
              have hys : ∀ o, (wr.alloc o).cell? ⟨w.heap.size + 1 + 1 + 1 + 1 + 1 + 1, j, none⟩ = some (.bool (has l' (w.heap.size + 1 + j))) := fun o => by rw [World.cell?_alloc_lt wr o _ (by simp; omega)]; exact hxs
              have HI2 : Hid (Inv w.heap.size wr l' (.map (some m)) p) := hi2
              have HB2 : Hid (Below w.heap.size w wr) := hb2
              clear hi2 hb2 hsn2 hsq2
              go_wp2
              go_region
              all_goals
                go_wp2
                go_roundg (4 - (j + 1))
                case measure => omega
                case rel => exact ⟨j + 1, by omega, by go_num, HI2.out.of (by simp [World.drew]) (fun k hk => Below.heap_alloc wr _ k hk), (HB2.out.alloc HB2.out.size _).drew⟩
            · go_wp2
              go_roundg (len - (k + 1))
              case measure => omega
              case rel => exact ⟨k + 1, l', _, _, by omega, by go_num, by rw [HL.out]; try go_num, rfl, by rw [HL.out]; omega, hi2, hb2⟩
      | false =>
        rw [hh] at hsc hlen
        have hlen' : l'.length = l.length + 1 := by simpa using hlen
        have HI1 : Hid (Inv w.heap.size (w1.setCell ⟨w.heap.size + 1 + 1 + 1 + 1 + 1 + 1, (z k % 4).toNat, none⟩ (.bool true)) l' (.map (some m)) (top p l'.length)) := HM.out.new (by omega) HH.out
        have HB1 : Hid (Below w.heap.size w (w1.setCell ⟨w.heap.size + 1 + 1 + 1 + 1 + 1 + 1, (z k % 4).toNat, none⟩ (.bool true))) := HB1.out.setCell (by simp; omega) _
        have hrl' : ∀ t, (Builtin.len_ #[40] t #[.map (some m)]).run Yba.prog (w1.setCell ⟨w.heap.size + 1 + 1 + 1 + 1 + 1 + 1, (z k % 4).toNat, none⟩ (.bool true)) = .ok (.int .i64 ((l.length : Int) + 1)) (w1.setCell ⟨w.heap.size + 1 + 1 + 1 + 1 + 1 + 1, (z k % 4).toNat, none⟩ (.bool true)) := fun t => by
          rcases HI1.out.kids with ⟨h1, _⟩ | ⟨m', clock, h1, h2⟩
          · cases h1
          · obtain rfl : m = m' := by simpa using h1
            rw [run_len h2 t]
            simp [ents, hlen']
        rw [hlen'] at hd8 HI1
        have HL : Hid (l'.length = l.length + 1) := hlen'
        have hne : ¬ w.heap.size + 1 + 1 + 1 + 1 + 1 = w.heap.size + 1 + 1 + 1 + 1 + 1 + 1 := by omega
        clear hlen hlen' hh HM HH hrl
        by_cases hp : p < (l.length : Int) + 1
        · rw [show top p (l.length + 1) = ((l.length + 1 : Nat) : Int) from if_pos (by omega)] at hd8 HI1
          rw [show ((l.length + 1 : Nat) : Int) = (l.length : Int) + 1 from by omega] at hd8 HI1
          go_wp2
          clear hd5 hd6 hd8 hsc hsf
          go_loopg [18] 4 (fun g i w2 => ∃ j : Nat, g + j = 4 ∧ i = .int .i64 j ∧ Inv w.heap.size w2 l' (.map (some m)) ((l.length : Int) + 1) ∧ Below w.heap.size w w2)
          case atStart => exact ⟨0, rfl, rfl, HI1.out, HB1.out⟩
          case round =>
            obtain ⟨j, hj, rfl, hi2, hb2⟩ := hrel
            by_cases hj4 : j < 4
            · have hx6 := cellOf hi2.scope 6 (.map (some m)) rfl
              have hxp := hi2.pool.cell j hj4
              obtain ⟨sn2, hsn2, hsq2⟩ := hi2.seen
              have hxs := cellOf hsn2 _ _ (hsq2 j hj4)
              have hlk1 := hi2.look (W := wr.drew) (Nat.le_refl _) (fun _ _ => rfl) j hj4
              have hlk2 := hi2.look (W := (wr.alloc (.cells #[] 31)).drew) (by simp [World.drew]) (fun k hk => Below.heap_alloc wr _ k hk) j hj4
              have hsz := hi2.size
              have hy6 : ∀ o, (wr.alloc o).cell? ⟨w.heap.size + 1 + 1 + 1 + 1 + 1, 6, none⟩ = some (.map (some m)) := fun o => by rw [World.cell?_alloc_lt wr o _ (by simp; omega)]; exact hx6
              have hyp : ∀ o, (wr.alloc o).cell? ⟨w.heap.size, j, none⟩ = some (ptr (w.heap.size + 1 + j)) := fun o => by rw [World.cell?_alloc_lt wr o _ (by simp; omega)]; exact hxp
              have hys : ∀ o, (wr.alloc o).cell? ⟨w.heap.size + 1 + 1 + 1 + 1 + 1 + 1, j, none⟩ = some (.bool (has l' (w.heap.size + 1 + j))) := fun o => by rw [World.cell?_alloc_lt wr o _ (by simp; omega)]; exact hxs
              have HI2 : Hid (Inv w.heap.size wr l' (.map (some m)) ((l.length : Int) + 1)) := hi2
              have HB2 : Hid (Below w.heap.size w wr) := hb2
              clear hi2 hb2 hsn2 hsq2
              go_wp2
              go_region
              all_goals
                go_wp2
                go_roundg (4 - (j + 1))
                case measure => omega
                case rel => exact ⟨j + 1, by omega, by go_num, HI2.out.of (by simp [World.drew]) (fun k hk => Below.heap_alloc wr _ k hk), (HB2.out.alloc HB2.out.size _).drew⟩
            · go_wp2
              go_roundg (len - (k + 1))
              case measure => omega
              case rel => exact ⟨k + 1, l', _, _, by omega, by go_num, by rw [HL.out]; try go_num, rfl, by rw [HL.out]; omega, hi2, hb2⟩
        · rw [show top p (l.length + 1) = p from if_neg (by omega)] at hd8 HI1
          go_wp2
          clear hd5 hd6 hd8 hsc hsf
          go_loopg [18] 4 (fun g i w2 => ∃ j : Nat, g + j = 4 ∧ i = .int .i64 j ∧ Inv w.heap.size w2 l' (.map (some m)) p ∧ Below w.heap.size w w2)
          case atStart => exact ⟨0, rfl, rfl, HI1.out, HB1.out⟩
          case round =>
            obtain ⟨j, hj, rfl, hi2, hb2⟩ := hrel
            by_cases hj4 : j < 4
            · have hx6 := cellOf hi2.scope 6 (.map (some m)) rfl
              have hxp := hi2.pool.cell j hj4
              obtain ⟨sn2, hsn2, hsq2⟩ := hi2.seen
              have hxs := cellOf hsn2 _ _ (hsq2 j hj4)
              have hlk1 := hi2.look (W := wr.drew) (Nat.le_refl _) (fun _ _ => rfl) j hj4
              have hlk2 := hi2.look (W := (wr.alloc (.cells #[] 31)).drew) (by simp [World.drew]) (fun k hk => Below.heap_alloc wr _ k hk) j hj4
              have hsz := hi2.size
              have hy6 : ∀ o, (wr.alloc o).cell? ⟨w.heap.size + 1 + 1 + 1 + 1 + 1, 6, none⟩ = some (.map (some m)) := fun o => by rw [World.cell?_alloc_lt wr o _ (by simp; omega)]; exact hx6
              have hyp : ∀ o, (wr.alloc o).cell? ⟨w.heap.size, j, none⟩ = some (ptr (w.heap.size + 1 + j)) := fun o => by rw [World.cell?_alloc_lt wr o _ (by simp; omega)]; exact hxp
              have hys : ∀ o, (wr.alloc o).cell? ⟨w.heap.size + 1 + 1 + 1 + 1 + 1 + 1, j, none⟩ = some (.bool (has l' (w.heap.size + 1 + j))) := fun o => by rw [World.cell?_alloc_lt wr o _ (by simp; omega)]; exact hxs
              have HI2 : Hid (Inv w.heap.size wr l' (.map (some m)) p) := hi2
              have HB2 : Hid (Below w.heap.size w wr) := hb2
              clear hi2 hb2 hsn2 hsq2
              go_wp2
              go_region
              all_goals
                go_wp2
                go_roundg (4 - (j + 1))
                case measure => omega
                case rel => exact ⟨j + 1, by omega, by go_num, HI2.out.of (by simp [World.drew]) (fun k hk => Below.heap_alloc wr _ k hk), (HB2.out.alloc HB2.out.size _).drew⟩
            · go_wp2
              go_roundg (len - (k + 1))
              case measure => omega
              case rel => exact ⟨k + 1, l', _, _, by omega, by go_num, by rw [HL.out]; try go_num, rfl, by rw [HL.out]; omega, hi2, hb2⟩
    · go_wp2
      go_ret
      exact ⟨rfl, hbel⟩
end Go.Proofs.Ybulkachm.Adopt
