import Derived.Test.YbulkachmRows
import Derived.Test.YbulkachmLocks
import Derived.Test.YbulkachmPtrMap
import Derived.WalkKit
import Derived.WalkSpells
import Derived.Below
import Derived.Defers
import Derived.Outline
import Derived.BigRegion
namespace Go.Proofs.Ybulkachm.Adopt
open Go.RowKit Go.MuLone Go.PtrMap

abbrev ptr (b : Nat) : Value := .pointer (some ⟨b, 0, none⟩)
/-- The key under which a child is kept: its pointer in an interface value. -/
abbrev key (b : Nat) : Value := .iface 23 (ptr b)

/-- Block b is a child. -/
def IsChild (w : World) (b : Nat) : Prop := ∃ c, w.heap[b]? = some (.cells c 26 (0, 0))

theorem keys66 (w : World) : Keys Yba.prog 66 key (IsChild w) w := by
  obtain ⟨i, hi, hc⟩ : ∃ i, Yba.prog.info? 23 = some i ∧ i.comparable = true := by
    have h : (Yba.prog.info? 23).any (·.comparable) = true := by kernel_rfl
    cases hx : Yba.prog.info? 23 with
    | none => rw [hx] at h; cases h
    | some i => rw [hx] at h; exact ⟨i, rfl, h⟩
  obtain ⟨j, hj, hs⟩ : ∃ j, Yba.prog.info? 26 = some j ∧ j.size ≠ 0 := by
    have h : (Yba.prog.info? 26).any (fun j => j.size != 0) = true := by kernel_rfl
    cases hx : Yba.prog.info? 26 with
    | none => rw [hx] at h; cases h
    | some j => rw [hx] at h; exact ⟨j, rfl, by simpa using h⟩
  constructor
  · intro b c hb hc'
    by_cases e : b = c
    · subst e
      have := run_equalIn_iface_ptr_same w 9998 ⟨b, 0, none⟩ Yba.underlying66 Yba.underlying23 hi hc hj
      simpa [Op.equal, Op.maxDepth] using this
    · obtain ⟨cb, hb⟩ := hb
      obtain ⟨cc, hc'⟩ := hc'
      have := run_equalIn_iface_ptr_other w 9998 (a := ⟨b, 0, none⟩) (b := ⟨c, 0, none⟩) Yba.underlying66 Yba.underlying23 hi hc hj hs (fun h => e (congrArg Addr.block h)) hb hc'
      have e' : (b == c) = false := by simpa using e
      rw [e']
      simpa [Op.equal, Op.maxDepth] using this
  · intro em b _
    have h : ∀ n, (Instr.checkKey em (n + 1 + 1) 66 (key b)).run Yba.prog w = .ok () w := fun n => by
      simp [Instr.checkKey, run_underlying Yba.underlying66, run_underlying Yba.underlying23, typeInfo, hi, hc]
    exact h 9998
  · exact ⟨_, Yba.underlying66, fun b c => by simp [Instr.sameNow]⟩
  · intro b
    simp [Instr.sameBits]

/-- The scope's nine cells. -/
abbrev scopeObj (st : Int) (ended children : Value) (pk : Int) : Obj :=
  .cells #[.nilIface, .chan none, .pointer none, .int .i32 st, .int .u32 0, ended, children, .pointer none, .int .i64 pk] 43

theorem cellOf {w : World} {b : Nat} {cs : Array Value} {t : TypeId} (h : w.heap[b]? = some (.cells cs t (0, 0))) (i : Nat) (v : Value) (hv : cs[i]? = some v) : w.cell? ⟨b, i, none⟩ = some v := by
  simp [World.cell?, h, hv]
theorem frozenOf {w : World} {b : Nat} {cs : Array Value} {t : TypeId} (h : w.heap[b]? = some (.cells cs t (0, 0))) (i : Nat) : w.frozen? ⟨b, i, none⟩ = false := by
  simp [World.frozen?, h]

set_option maxRecDepth 100000 in
set_option maxHeartbeats 800000 in
/-- adopt on a scope that has ended. -/
theorem adopt_ended (sb eb c : Nat) (pk : Int) (ch : Value) (w : World) (hs : w.heap[sb]? = some (scopeObj 0 (ptr eb) ch pk)) :
    Calls Yba.prog 7 #[ptr sb, key c] w fun e w' => e = .returned (ptr eb) ∧ w' = (w.setCell ⟨sb, 3, none⟩ (.int .i32 1)).setCell ⟨sb, 3, none⟩ (.int .i32 0) := by
  have c3 := cellOf hs 3 (.int .i32 0) rfl
  have c5 := cellOf hs 5 (ptr eb) rfl
  have f3 := frozenOf hs 3
  clear hs
  go_enter_defers Yba.func7, Yba.ntmps7
  go_wp2_with (go_at_call 14; refine (lock_free Yba.muLib ⟨sb, 3, none⟩ _ c3 f3).mono ?_; rintro e w' ⟨rfl, rfl⟩)
  refine leaves_cons (f := 15) (args := #[.pointer (some ⟨sb, 3, none⟩)]) (by simp) (by simp [go_sem]) ?_
  refine (unlock_deferred Yba.muLib ⟨sb, 3, none⟩ .returning _ ?_ ?_).mono ?_
  · exact World.cell?_setCell_same w ⟨sb, 3, none⟩ (.int .i32 1) c3
  · simp [f3]
  rintro e u' w'' ⟨rfl, rfl, rfl⟩
  exact ⟨_, results_tmp rfl _ _ _, rfl, rfl⟩

theorem heap_setCell_at {w : World} {b : Nat} {cs : Array Value} {t : TypeId} (h : w.heap[b]? = some (.cells cs t (0, 0))) (i : Nat) (v : Value) : (w.setCell ⟨b, i, none⟩ v).heap[b]? = some (.cells (cs.setIfInBounds i v) t (0, 0)) := by
  simp [World.setCell, Array.getElem?_modify, h]

/-- What the call may turn: blocks sb and m alone. -/
structure Only (sb m : Nat) (w w' : World) : Prop where
  os : w'.os = w.os
  tape : w'.tape = w.tape
  output : w'.output = w.output
  size : w.heap.size ≤ w'.heap.size
  block : ∀ k, k < w.heap.size → k ≠ sb → k ≠ m → w'.heap[k]? = w.heap[k]?

theorem run_len {w : World} {m clock : Nat} {es : Array MapEntry} (h : w.heap[m]? = some (.map es clock)) (t : TypeId) : (Builtin.len_ #[40] t #[.map (some m)]).run Yba.prog w = .ok (.int .i64 es.size) w := by
  simp [Builtin.len_, run_underlying Yba.underlying40, MapKept.run_getObj_map h, goInt]

theorem run_max (a b : Int) (t : TypeId) (w : World) : (Builtin.max_ #[3, 3] t #[.int .i64 a, .int .i64 b]).run Yba.prog w = .ok (.int .i64 (if a < b then b else a)) w := by
  simp [Builtin.max_, Builtin.max2]

theorem q40 (w : World) (r : Option Nat) : (binOp .eql 40 (.map r) (.map none)).run Yba.prog w = .ok (.bool r.isNone) w := run_eql_map_nil w _ _ _ r Yba.underlying40

set_option maxRecDepth 100000 in
set_option maxHeartbeats 800000 in
theorem adopt_some (sb m c clock : Nat) (pk mx : Int) (l' : List (Nat × Nat)) (w w2 : World) (hs : w.heap[sb]? = some (scopeObj 0 (.pointer none) (.map (some m)) pk)) 
    (hrun : (Instr.mapUpdate 40 (.map (some m)) (key c) (.agg #[])).run Yba.prog (w.setCell ⟨sb, 3, none⟩ (.int .i32 1)) = .ok () w2)
    (hmx : (if pk < (l'.length : Int) then (l'.length : Int) else pk) = mx) (hs2 : w2.heap[sb]? = some (scopeObj 1 (.pointer none) (.map (some m)) pk)) (hm2 : w2.heap[m]? = some (.map (ents key (.agg #[]) l').toArray clock)) :
    Calls Yba.prog 7 #[ptr sb, key c] w fun e w' => e = .returned (.pointer none) ∧ w' = ((w2.setCell ⟨sb, 8, none⟩ (.int .i64 mx)).setCell ⟨sb, 3, none⟩ (.int .i32 0)).drew := by
  have c3 := cellOf hs 3 (.int .i32 0) rfl
  have c5 := cellOf hs 5 (.pointer none) rfl
  have c6 := cellOf hs 6 (.map (some m)) rfl
  have f3 := frozenOf hs 3
  have d6 := cellOf hs2 6 (.map (some m)) rfl
  have d8 := cellOf hs2 8 (.int .i64 pk) rfl
  have g8 := frozenOf hs2 8
  have g3 := frozenOf hs2 3
  have e3 := cellOf hs2 3 (.int .i32 1) rfl
  have hq := q40
  have hlen := run_len (w := w2.drew) hm2
  simp only [ents, List.size_toArray, List.length_map] at hlen
  have hmax := fun t w => run_max pk l'.length t w
  simp only [hmx] at hmax
  clear hs hs2 hm2 hmx
  go_enter_defers Yba.func7, Yba.ntmps7
  go_wp2_with (go_at_call 14; refine (lock_free Yba.muLib ⟨sb, 3, none⟩ _ c3 f3).mono ?_; rintro e w' ⟨rfl, rfl⟩)
  go_region
  go_wp2
  refine leaves_cons (f := 15) (args := #[.pointer (some ⟨sb, 3, none⟩)]) (by simp) (by simp [go_sem]) ?_
  refine (unlock_deferred Yba.muLib ⟨sb, 3, none⟩ .returning _ ?_ ?_).mono ?_
  · exact (World.cell?_setCell_other w2 ⟨sb, 8, none⟩ ⟨sb, 3, none⟩ _ (by simp)).trans e3
  · simp [g3]
  rintro e u' w'' ⟨rfl, rfl, rfl⟩
  exact ⟨_, results_tmp rfl _ _ _, rfl, rfl⟩

set_option maxRecDepth 100000 in
set_option maxHeartbeats 800000 in
theorem adopt_nil (sb c clock : Nat) (pk mx : Int) (l' : List (Nat × Nat)) (w w2 : World) (hs : w.heap[sb]? = some (scopeObj 0 (.pointer none) (.map none) pk))
    (hrun : (Instr.mapUpdate 40 (.map (some w.heap.size)) (key c) (.agg #[])).run Yba.prog (((w.setCell ⟨sb, 3, none⟩ (.int .i32 1)).setCell ⟨sb, 6, none⟩ (.map (some w.heap.size))).alloc (.map #[] 0)) = .ok () w2)
    (hmx : (if pk < (l'.length : Int) then (l'.length : Int) else pk) = mx) (hs2 : w2.heap[sb]? = some (scopeObj 1 (.pointer none) (.map (some w.heap.size)) pk)) (hm2 : w2.heap[w.heap.size]? = some (.map (ents key (.agg #[]) l').toArray clock)) :
    Calls Yba.prog 7 #[ptr sb, key c] w fun e w' => e = .returned (.pointer none) ∧ w' = ((w2.setCell ⟨sb, 8, none⟩ (.int .i64 mx)).setCell ⟨sb, 3, none⟩ (.int .i32 0)).drew := by
  have hlt : sb < w.heap.size := (Array.getElem?_eq_some_iff.1 hs).1
  have c3 := cellOf hs 3 (.int .i32 0) rfl
  have c5 := cellOf hs 5 (.pointer none) rfl
  have c6 := cellOf hs 6 (.map none) rfl
  have f3 := frozenOf hs 3
  have f6 := frozenOf hs 6
  have d6 := cellOf hs2 6 (.map (some w.heap.size)) rfl
  have d8 := cellOf hs2 8 (.int .i64 pk) rfl
  have g8 := frozenOf hs2 8
  have g3 := frozenOf hs2 3
  have e3 := cellOf hs2 3 (.int .i32 1) rfl
  have hq := q40
  have hmm := @run_makeMap Yba.prog
  have hlen := run_len (w := w2.drew) hm2
  simp only [ents, List.size_toArray, List.length_map] at hlen
  have hmax := fun t w => run_max pk l'.length t w
  simp only [hmx] at hmax
  clear hs hs2 hm2 hmx
  go_enter_defers Yba.func7, Yba.ntmps7
  go_wp2_with (go_at_call 14; refine (lock_free Yba.muLib ⟨sb, 3, none⟩ _ c3 f3).mono ?_; rintro e w' ⟨rfl, rfl⟩)
  go_region
  go_wp2
  refine leaves_cons (f := 15) (args := #[.pointer (some ⟨sb, 3, none⟩)]) (by simp) (by simp [go_sem]) ?_
  refine (unlock_deferred Yba.muLib ⟨sb, 3, none⟩ .returning _ ?_ ?_).mono ?_
  · exact (World.cell?_setCell_other w2 ⟨sb, 8, none⟩ ⟨sb, 3, none⟩ _ (by simp)).trans e3
  · simp [g3]
  rintro e u' w'' ⟨rfl, rfl, rfl⟩
  exact ⟨_, results_tmp rfl _ _ _, rfl, rfl⟩

/-- The scope's children: none yet, or a map. -/
def Kids (w : World) (ch : Value) (l : List (Nat × Nat)) : Prop :=
  (ch = .map none ∧ l = []) ∨ ∃ m clock, ch = .map (some m) ∧ w.heap[m]? = some (.map (ents key (.agg #[]) l).toArray clock)

/-- What adopt leaves. -/
structure Took (sb c : Nat) (pk : Int) (ch : Value) (l : List (Nat × Nat)) (w : World) (m : Nat) (l' : List (Nat × Nat)) (w' : World) : Prop where
  scope : w'.heap[sb]? = some (scopeObj 0 (.pointer none) (.map (some m)) (if pk < (l'.length : Int) then (l'.length : Int) else pk))
  kids : ∃ clock, w'.heap[m]? = some (.map (ents key (.agg #[]) l').toArray clock)
  has : ∀ b, has l' b = (has l b || c == b)
  len : l'.length = l.length + if PtrMap.has l c then 0 else 1
  mem : ∀ p ∈ l', p ∈ l ∨ p.1 = c
  which : m = w.heap.size ∨ ch = .map (some m)
  only : Only sb m w w'

theorem has_snoc (l : List (Nat × Nat)) (c k b : Nat) : PtrMap.has (l ++ [(c, k)]) b = (PtrMap.has l b || c == b) := by simp [PtrMap.has]

/-- The last two stores, over a world that is known below. -/
theorem fin_scope {w2 : World} {sb : Nat} {st pk mx : Int} {ch : Value} (h : w2.heap[sb]? = some (scopeObj st (.pointer none) ch pk)) :
    (((w2.setCell ⟨sb, 8, none⟩ (.int .i64 mx)).setCell ⟨sb, 3, none⟩ (.int .i32 0)).drew).heap[sb]? = some (scopeObj 0 (.pointer none) ch mx) := by
  have h1 := heap_setCell_at h 8 (.int .i64 mx)
  exact heap_setCell_at h1 3 (.int .i32 0)
theorem fin_other (w2 : World) (sb k : Nat) (mx : Int) (h : k ≠ sb) :
    (((w2.setCell ⟨sb, 8, none⟩ (.int .i64 mx)).setCell ⟨sb, 3, none⟩ (.int .i32 0)).drew).heap[k]? = w2.heap[k]? := by
  have h1 := Below.heap_setCell (w2.setCell ⟨sb, 8, none⟩ (.int .i64 mx)) ⟨sb, 3, none⟩ (.int .i32 0) k h
  have h2 := Below.heap_setCell w2 ⟨sb, 8, none⟩ (.int .i64 mx) k h
  exact h1.trans h2

theorem child_of {w w' : World} {b sb : Nat} {st : Int} {e ch : Value} {pk : Int} (hs : w.heap[sb]? = some (scopeObj st e ch pk)) (h : IsChild w b) (hk : ∀ k, k ≠ sb → k < w.heap.size → w'.heap[k]? = w.heap[k]?) : IsChild w' b := by
  obtain ⟨c, hc⟩ := h
  have hne : b ≠ sb := by
    intro e
    subst e
    rw [hs] at hc
    simp at hc
  exact ⟨c, by rw [hk b hne (Array.getElem?_eq_some_iff.1 hc).1]; exact hc⟩

theorem adopt_live (sb c : Nat) (pk : Int) (ch : Value) (l : List (Nat × Nat)) (w : World) (hs : w.heap[sb]? = some (scopeObj 0 (.pointer none) ch pk)) (hk : Kids w ch l) (hl : ∀ p ∈ l, IsChild w p.1) (hc : IsChild w c) :
    Calls Yba.prog 7 #[ptr sb, key c] w fun e w' => e = .returned (.pointer none) ∧ ∃ m l', Took sb c pk ch l w m l' w' := by
  have hlt : sb < w.heap.size := (Array.getElem?_eq_some_iff.1 hs).1
  have h1 := heap_setCell_at hs 3 (.int .i32 1)
  have o1 : ∀ k, k ≠ sb → (w.setCell ⟨sb, 3, none⟩ (.int .i32 1)).heap[k]? = w.heap[k]? := fun k hne => Below.heap_setCell w _ _ k hne
  have z1 : (w.setCell ⟨sb, 3, none⟩ (.int .i32 1)).heap.size = w.heap.size := by simp [World.setCell]
  rcases hk with ⟨rfl, rfl⟩ | ⟨m, clock, rfl, hm⟩
  · -- the map is made
    have h2 := heap_setCell_at h1 6 (.map (some w.heap.size))
    generalize hW : ((w.setCell ⟨sb, 3, none⟩ (.int .i32 1)).setCell ⟨sb, 6, none⟩ (.map (some w.heap.size))) = W at h2
    have zW : W.heap.size = w.heap.size := by rw [← hW]; simp [World.setCell]
    have oW : ∀ k, k ≠ sb → W.heap[k]? = w.heap[k]? := fun k hne => by rw [← hW, Below.heap_setCell _ _ _ k hne]; exact o1 k hne
    have eW : W.os = w.os ∧ W.tape = w.tape ∧ W.output = w.output := by rw [← hW]; exact ⟨rfl, rfl, rfl⟩
    have hmap : (W.alloc (.map #[] 0)).heap[w.heap.size]? = some (.map (ents key (.agg #[]) []).toArray 0) := by
      have := (MapKept.heap_alloc W (.map #[] 0)).1
      rw [zW] at this
      exact this
    have hcW : IsChild (W.alloc (.map #[] 0)) c := child_of hs hc fun k hne hk => by
      rw [Below.heap_alloc _ _ _ (by omega)]; exact oW k hne
    have hrun := run_update_new (keys66 (W.alloc (.map #[] 0))) Yba.underlying40 (.agg #[]) (l := []) (by simp) hmap hcW rfl
    have hset := MapKept.heap_set (o' := .map (ents key (.agg #[]) ([] ++ [(c, 0)])).toArray (0 + 1)) hmap
    have zset : ((W.alloc (.map #[] 0)).heap.setIfInBounds w.heap.size (.map (ents key (.agg #[]) ([] ++ [(c, 0)])).toArray (0 + 1))).size = w.heap.size + 1 := by simp [zW]
    generalize hW2 : ({ W.alloc (.map #[] 0) with heap := (W.alloc (.map #[] 0)).heap.setIfInBounds w.heap.size (.map (ents key (.agg #[]) ([] ++ [(c, 0)])).toArray (0 + 1)) } : World) = W2 at hrun
    have eh : W2.heap = (W.alloc (.map #[] 0)).heap.setIfInBounds w.heap.size (.map (ents key (.agg #[]) ([] ++ [(c, 0)])).toArray (0 + 1)) := by rw [← hW2]
    have eo : W2.os = W.os ∧ W2.tape = W.tape ∧ W2.output = W.output := by rw [← hW2]; exact ⟨rfl, rfl, rfl⟩
    rw [← eh] at hset zset
    have k2 : ∀ k, k < w.heap.size → W2.heap[k]? = W.heap[k]? := fun k hk => by
      rw [hset.2 k (by omega), Below.heap_alloc _ _ _ (by omega)]
    have hs2 : W2.heap[sb]? = some (scopeObj 1 (.pointer none) (.map (some w.heap.size)) pk) := by rw [k2 sb hlt]; exact h2
    refine (adopt_nil sb c _ pk _ ([] ++ [(c, 0)]) w W2 hs (by rw [hW]; exact hrun) rfl hs2 hset.1).mono ?_
    rintro e w' ⟨rfl, rfl⟩
    refine ⟨rfl, w.heap.size, [] ++ [(c, 0)], fin_scope hs2, ⟨_, by rw [fin_other _ _ _ _ (by omega)]; exact hset.1⟩, fun b => has_snoc _ _ _ _, rfl, fun p hp => .inr (by simp at hp; rw [hp]), .inl rfl, ?_⟩
    refine ⟨eo.1.trans eW.1, eo.2.1.trans eW.2.1, eo.2.2.trans eW.2.2, ?_, fun k hk hne _ => ?_⟩
    · have : (((W2.setCell ⟨sb, 8, none⟩ (.int .i64 (if pk < (([] ++ [(c, 0)] : List (Nat × Nat)).length : Int) then (([] ++ [(c, 0)] : List (Nat × Nat)).length : Int) else pk))).setCell ⟨sb, 3, none⟩ (.int .i32 0)).drew).heap.size = W2.heap.size := by
        simp [World.setCell, World.drew]
      omega
    · rw [fin_other _ _ _ _ hne, k2 k hk]; exact oW k hne
  · have hms : m ≠ sb := by
      intro e
      subst e
      rw [hs] at hm
      simp at hm
    generalize hW : w.setCell ⟨sb, 3, none⟩ (.int .i32 1) = W at h1 o1 z1
    have eW : W.os = w.os ∧ W.tape = w.tape ∧ W.output = w.output := by rw [← hW]; exact ⟨rfl, rfl, rfl⟩
    have hmW : W.heap[m]? = some (.map (ents key (.agg #[]) l).toArray clock) := by rw [o1 m hms]; exact hm
    have hkW : ∀ b, IsChild w b → IsChild W b := fun b hb => child_of hs hb fun k hne _ => o1 k hne
    have hlW : ∀ p ∈ l, IsChild W p.1 := fun p hp => hkW _ (hl p hp)
    obtain ⟨W2, l', clock', hrun, hm2, ho2, hz2, e1, e2, e3, hhas, hlen, hmem⟩ : ∃ (W2 : World) (l' : List (Nat × Nat)) (clock' : Nat), (Instr.mapUpdate 40 (.map (some m)) (key c) (.agg #[])).run Yba.prog W = .ok () W2 ∧
        W2.heap[m]? = some (.map (ents key (.agg #[]) l').toArray clock') ∧ (∀ k, k ≠ m → W2.heap[k]? = W.heap[k]?) ∧ W2.heap.size = W.heap.size ∧ W2.os = W.os ∧ W2.tape = W.tape ∧ W2.output = W.output ∧
        (∀ b, PtrMap.has l' b = (PtrMap.has l b || c == b)) ∧ (l'.length = l.length + if PtrMap.has l c then 0 else 1) ∧ ∀ p ∈ l', p ∈ l ∨ p.1 = c := by
      cases hh : PtrMap.has l c with
      | true =>
        refine ⟨W, l, clock, run_update_old (keys66 W) Yba.underlying40 (.agg #[]) hlW hmW (hkW c hc) hh, hmW, fun _ _ => rfl, rfl, rfl, rfl, rfl, fun b => ?_, by simp, fun p hp => .inl hp⟩
        by_cases e : c = b
        · subst e; simp [hh]
        · simp [e]
      | false =>
        have hset := MapKept.heap_set (o' := .map (ents key (.agg #[]) (l ++ [(c, clock)])).toArray (clock + 1)) hmW
        exact ⟨_, l ++ [(c, clock)], clock + 1, run_update_new (keys66 W) Yba.underlying40 (.agg #[]) hlW hmW (hkW c hc) hh, hset.1, hset.2, by simp, rfl, rfl, rfl, fun b => has_snoc _ _ _ _, by simp, fun p hp => by
          simp at hp
          rcases hp with hp | hp
          · exact .inl hp
          · exact .inr (by rw [hp])⟩
    have hs2 : W2.heap[sb]? = some (scopeObj 1 (.pointer none) (.map (some m)) pk) := by rw [ho2 sb (fun e => hms e.symm)]; exact h1
    refine (adopt_some sb m c _ pk _ l' w W2 hs (by rw [hW]; exact hrun) rfl hs2 hm2).mono ?_
    rintro e w' ⟨rfl, rfl⟩
    refine ⟨rfl, m, l', fin_scope hs2, ⟨_, by rw [fin_other _ _ _ _ hms]; exact hm2⟩, hhas, hlen, hmem, .inr rfl, ?_⟩
    refine ⟨e1.trans eW.1, e2.trans eW.2.1, e3.trans eW.2.2, ?_, fun k hk hne hnm => ?_⟩
    · have : (((W2.setCell ⟨sb, 8, none⟩ (.int .i64 (if pk < (l'.length : Int) then (l'.length : Int) else pk))).setCell ⟨sb, 3, none⟩ (.int .i32 0)).drew).heap.size = W2.heap.size := by
        simp [World.setCell, World.drew]
      omega
    · rw [fin_other _ _ _ _ hne, ho2 k hnm]; exact o1 k hne
end Go.Proofs.Ybulkachm.Adopt
