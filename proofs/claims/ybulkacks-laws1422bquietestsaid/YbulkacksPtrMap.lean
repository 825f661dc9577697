/-
  A MAP WHOSE KEYS ARE POINTERS (bare, or held in an interface value) AND WHOSE ELEMENTS ARE ALL ONE VALUE (a set: map[K]struct{}): what a look-up and a store do, as equations on the run.
  'K b': the key that leads to block b. 'l': the entries: the blocks, each with its stamp.
-/
import Derived.LaidEqlPtr
import Derived.MapKept
namespace Go.PtrMap

/-- The entries of a set of pointers. -/
def ents (K : Nat → Value) (v : Value) (l : List (Nat × Nat)) : List MapEntry := l.map fun p => { key := K p.1, val := v, born := p.2 }

/-- Is block b's key among them? -/
def has (l : List (Nat × Nat)) (b : Nat) : Bool := l.any fun p => p.1 == b

/-- What the laws ask of the keys, in world w. -/
structure Keys (P : Program) (kt : TypeId) (K : Nat → Value) (S : Nat → Prop) (w : World) : Prop where
  eq : ∀ b c, S b → S c → (Op.equal kt (K b) (K c)).run P w = .ok (b == c) w
  chk : ∀ em b, S b → (Instr.checkKey em 10000 kt (K b)).run P w = .ok () w
  now : ∃ d, P.underlying kt = some d ∧ ∀ b c, Instr.sameNow d (K b) (K c) = none
  bits : ∀ b, Instr.sameBits 10000 (K b) (K b) = true

section
variable {P : Program} {kt : TypeId} {K : Nat → Value} {S : Nat → Prop} {w : World}

theorem run_findAsking (H : Keys P kt K S w) (v : Value) {b : Nat} (hb : S b) : ∀ (l : List (Nat × Nat)) (i : Nat), (∀ p ∈ l, S p.1) →
    ∃ r, (Instr.findAsking kt (K b) (ents K v l) i).run P w = .ok r w ∧ (has l b = false → r = none) ∧ (has l b = true → ∃ j p, r = some (i + j, v) ∧ l[j]? = some p ∧ p.1 = b)
  | [], i, _ => ⟨none, by simp [ents, Instr.findAsking], fun _ => rfl, fun h => by simp [has] at h⟩
  | p :: l, i, hl => by
    have he := H.eq b p.1 hb (hl p (by simp))
    by_cases hp : b = p.1
    · have ht : (b == p.1) = true := by simpa using hp
      rw [ht] at he
      refine ⟨some (i, v), by simp [ents, Instr.findAsking, he], fun h => by simp [has, hp] at h, fun _ => ⟨0, p, rfl, rfl, hp.symm⟩⟩
    · have ht : (b == p.1) = false := by simpa using hp
      rw [ht] at he
      obtain ⟨r, h1, h2, h3⟩ := run_findAsking H v hb l (i + 1) (fun q hq => hl q (by simp [hq]))
      have hh : has (p :: l) b = has l b := by
        have : (p.1 == b) = false := by simpa using fun h : p.1 = b => hp h.symm
        simp [has, this]
      refine ⟨r, ?_, by rw [hh]; exact h2, ?_⟩
      · simp only [ents, List.map_cons, Instr.findAsking, Sem.run_bind, he, Result.andThen_ok]
        simpa [ents] using h1
      · rw [hh]
        intro h
        obtain ⟨j, q, e1, e2, e3⟩ := h3 h
        exact ⟨j + 1, q, by rw [e1]; congr 2; omega, by simpa using e2, e3⟩

theorem run_findKey (H : Keys P kt K S w) (v : Value) {b : Nat} (hb : S b) (l : List (Nat × Nat)) (hl : ∀ p ∈ l, S p.1) :
    ∃ r, (Instr.findKey kt (K b) (ents K v l)).run P w = .ok r w ∧ (has l b = false → r = none) ∧ (has l b = true → ∃ j p, r = some (j, v) ∧ l[j]? = some p ∧ p.1 = b) := by
  obtain ⟨d, hd, hn⟩ := H.now
  cases l with
  | nil => exact ⟨none, by simp [ents, Instr.findKey, run_underlying hd, Instr.findNow], fun _ => rfl, fun h => by simp [has] at h⟩
  | cons p l =>
    obtain ⟨r, h1, h2, h3⟩ := run_findAsking H v hb (p :: l) 0 hl
    refine ⟨r, ?_, h2, ?_⟩
    · have : Instr.findNow d (K b) (ents K v (p :: l)) 0 = none := by simp [ents, Instr.findNow, hn]
      simp only [Instr.findKey, Sem.run_bind, run_underlying hd, Result.andThen_ok, this]
      exact h1
    · simpa using h3

/-- 'x, ok := m[k]'. -/
theorem run_lookup (H : Keys P kt K S w) {mt et : TypeId} (hm : P.underlying mt = some (.map kt et)) (v : Value) (hz : (zeroValue et).run P w = .ok v w) {m clock : Nat} {l : List (Nat × Nat)} (hl : ∀ p ∈ l, S p.1)
    (hobj : w.heap[m]? = some (.map (ents K v l).toArray clock)) {b : Nat} (hb : S b) :
    (Instr.lookup mt (.map (some m)) (K b) true).run P w = .ok (.tuple #[v, .bool (has l b)]) w := by
  obtain ⟨r, h1, h2, h3⟩ := run_findKey H v hb l hl
  have hc := H.chk (ents K v l).toArray.isEmpty b hb
  simp only [Instr.lookup, Sem.run_bind, run_underlying hm, MapKept.run_getObj_map hobj, Result.andThen_ok, Sem.run_pure]
  rw [hc]
  simp only [Result.andThen_ok, h1]
  cases hh : has l b with
  | false => rw [h2 hh]; simp [hz]
  | true =>
    obtain ⟨j, p, rfl, _, _⟩ := h3 hh
    simp

/-- 'm[k] = v', k among them already: nothing has turned. -/
theorem run_update_old (H : Keys P kt K S w) {mt et : TypeId} (hm : P.underlying mt = some (.map kt et)) (v : Value) {m clock : Nat} {l : List (Nat × Nat)} (hl : ∀ p ∈ l, S p.1)
    (hobj : w.heap[m]? = some (.map (ents K v l).toArray clock)) {b : Nat} (hb : S b) (hh : has l b = true) :
    (Instr.mapUpdate mt (.map (some m)) (K b) v).run P w = .ok () w := by
  obtain ⟨r, h1, h2, h3⟩ := run_findKey H v hb l hl
  obtain ⟨j, p, rfl, hj, hp⟩ := h3 hh
  have hc := H.chk false b hb
  have hlt : j < l.length := (List.getElem?_eq_some_iff.1 hj).1
  have hkey : ((((ents K v l).toArray[j]?).map (·.key)).getD (K b)) = K b := by
    simp [ents, hj, hp]
  have hmod : (ents K v l).toArray.modify j (fun e => { e with key := K b, val := v }) = (ents K v l).toArray := by
    apply Array.ext
    · simp
    · intro i h1 h2
      rw [Array.getElem_modify]
      split
      · rename_i e
        subst e
        have hpe : l[j] = p := by rw [List.getElem?_eq_getElem hlt] at hj; exact Option.some.inj hj
        simp [ents, hpe, hp]
      · rfl
  have hset : (setObj m (.map (ents K v l).toArray clock)).run P w = .ok () w := by
    rw [MapKept.run_setObj_map _ hobj]
    congr 1
    have : w.heap.setIfInBounds m (.map (ents K v l).toArray clock) = w.heap := by
      apply Array.ext
      · simp
      · intro i h1 h2
        rw [Array.getElem_setIfInBounds]
        split
        · rename_i e
          subst e
          have := (Array.getElem?_eq_some_iff.1 hobj).2
          exact this.symm
        · rfl
    rw [this]
  have hstay : (Instr.keyThatStays (K b) (K b)).run P w = .ok (K b) w := by
    simp [Instr.keyThatStays, H.bits]
  simp only [Instr.mapUpdate, Sem.run_bind, run_underlying hm, MapKept.run_getObj_map hobj, Result.andThen_ok]
  rw [hc]
  simp only [Result.andThen_ok, h1, hkey, Sem.run_bind, hstay, hmod]
  exact hset

/-- 'm[k] = v', k a new one. -/
theorem run_update_new (H : Keys P kt K S w) {mt et : TypeId} (hm : P.underlying mt = some (.map kt et)) (v : Value) {m clock : Nat} {l : List (Nat × Nat)} (hl : ∀ p ∈ l, S p.1)
    (hobj : w.heap[m]? = some (.map (ents K v l).toArray clock)) {b : Nat} (hb : S b) (hh : has l b = false) :
    (Instr.mapUpdate mt (.map (some m)) (K b) v).run P w = .ok () { w with heap := w.heap.setIfInBounds m (.map (ents K v (l ++ [(b, clock)])).toArray (clock + 1)) } := by
  obtain ⟨r, h1, h2, h3⟩ := run_findKey H v hb l hl
  have hc := H.chk false b hb
  obtain rfl := h2 hh
  simp only [Instr.mapUpdate, Sem.run_bind, run_underlying hm, MapKept.run_getObj_map hobj, Result.andThen_ok]
  rw [hc]
  simp only [Result.andThen_ok, h1]
  rw [MapKept.run_setObj_map _ hobj]
  simp [ents]
end
end Go.PtrMap
