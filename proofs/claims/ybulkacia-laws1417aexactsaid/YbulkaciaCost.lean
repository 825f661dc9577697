import Derived.Test.YbulkaciaCalls
namespace Go.Proofs.Ybulkacia.Ex
open Go.RowKit Go.Fl

theorem run_store_float {P : Program} (w : World) (a : Addr) (m : Mode) (k : FloatKind) (n : Nat) : (store a (.float k n) m).run P w = stored P w a (.float k n) m := run_store P w a _ m rfl

attribute [local go_sem] run_store_float

theorem cellOf {w : World} {b i : Nat} {c : Array Value} {t : TypeId} {v : Value} (h : w.heap[b]? = some (.cells c t (0, 0))) (hv : c[i]? = some v) : w.cell? ⟨b, i, none⟩ = some v := by
  simp [World.cell?, h, hv]
theorem frozenOf {w : World} {b : Nat} (i : Nat) {c : Array Value} {t : TypeId} (h : w.heap[b]? = some (.cells c t (0, 0))) : w.frozen? ⟨b, i, none⟩ = false := by
  simp [World.frozen?, h]
theorem heap_setCell_at {w : World} {b i : Nat} {c : Array Value} {t : TypeId} (v : Value) (h : w.heap[b]? = some (.cells c t (0, 0))) : (w.setCell ⟨b, i, none⟩ v).heap[b]? = some (.cells (c.setIfInBounds i v) t (0, 0)) := by
  simp [World.setCell, Array.getElem?_modify, h]
theorem ltOf {w : World} {b : Nat} {o : Obj} (h : w.heap[b]? = some o) : b < w.heap.size := (Array.getElem?_eq_some_iff.1 h).1
theorem cell_set_far {w : World} {b i c j : Nat} {v u : Value} (hne : c ≠ b) (h : w.cell? ⟨c, j, none⟩ = some u) : (w.setCell ⟨b, i, none⟩ v).cell? ⟨c, j, none⟩ = some u := by
  rw [← h]
  exact World.cell?_of_block (w := w) (Deep.blk_setCell_other _ _ _ _ hne)

/-- The cost's six cells. -/
abbrev costObj (e es s ss : Nat) (k c : Bool) : Obj := .cells #[.float .f64 e, .float .f64 es, .float .f64 s, .float .f64 ss, .bool k, .bool c] 58

/-- Block C alone has been written. -/
structure Kept (C : Nat) (w w' : World) : Prop where
  block : ∀ b, b ≠ C → w'.heap[b]? = w.heap[b]?
  size : w'.heap.size = w.heap.size
  os : w'.os = w.os
  tape : w'.tape = w.tape
  output : w'.output = w.output

theorem Kept.refl (C : Nat) (w : World) : Kept C w w := ⟨fun _ _ => rfl, rfl, rfl, rfl, rfl⟩
theorem Kept.trans {C : Nat} {a b c : World} (h : Kept C a b) (k : Kept C b c) : Kept C a c := ⟨fun i hi => (k.block i hi).trans (h.block i hi), k.size.trans h.size, k.os.trans h.os, k.tape.trans h.tape, k.output.trans h.output⟩
theorem Kept.set {C : Nat} {a b : World} (h : Kept C a b) (i : Nat) (v : Value) : Kept C a (b.setCell ⟨C, i, none⟩ v) :=
  h.trans ⟨fun k hk => Deep.blk_setCell_other _ _ _ _ hk, by simp [World.setCell], rfl, rfl, rfl⟩
theorem Kept.drew {C : Nat} {a b : World} (h : Kept C a b) : Kept C a b.drew := ⟨h.block, h.size, h.os, h.tape, h.output⟩
theorem Kept.drewN {C : Nat} {a b : World} (h : Kept C a b) (n : Nat) : Kept C a (b.drewN n) := ⟨h.block, h.size, h.os, h.tape, h.output⟩
theorem Kept.cell {C : Nat} {a b : World} (h : Kept C a b) {B i : Nat} (hne : B ≠ C) : b.cell? ⟨B, i, none⟩ = a.cell? ⟨B, i, none⟩ := World.cell?_of_block (w := a) (h.block B hne)
theorem Kept.below {C N : Nat} {w a b : World} (h : Kept C a b) (hN : N ≤ C) (hb : Below N w a) : Below N w b :=
  ⟨h.os.trans hb.os, h.tape.trans hb.tape, h.output.trans hb.output, by rw [h.size]; exact hb.size, fun k hk => (h.block k (by omega)).trans (hb.block k hk)⟩

def TermE (part : Nat) (one : Int) (e e' : Nat) : Prop := ∃ p, IsMul part (fl one) p ∧ IsAdd e p e'
def TermES (part : Nat) (one : Int) (e e' : Nat) : Prop := ∃ p, IsMul part (absV (fl one)) p ∧ IsAdd e p e'
def TermS (part d : Nat) (s s' : Nat) : Prop := ∃ g p, IsMul part part g ∧ IsMul g d p ∧ IsAdd s p s'

set_option maxRecDepth 100000 in
set_option maxHeartbeats 2000000 in
theorem addBound (C R o part e es s ss d : Nat) (k c : Bool) (one : Int) (w : World) (hC : w.heap[C]? = some (costObj e es s ss k c)) (hp : w.cell? ⟨R, o + 8, none⟩ = some (.float .f64 part)) (hne : R ≠ C) :
    Calls Yba.prog 15 #[ptr C, at_ R o, .int .i64 one, .int .i64 0, .float .f64 d] w fun v w' => v = .returned (.tuple #[]) ∧
      ∃ e1 s1, w'.heap[C]? = some (costObj e1 es s1 ss k (c && !decide (0 < one))) ∧ Kept C w w' ∧ TermE part one e e1 ∧ TermS part d s s1 := by
  have hadd := fun x y w => run_fadd (P := Yba.prog) 25 x y w
  have hmul := fun x y w => run_fmul (P := Yba.prog) 25 x y w
  have HC : Hid (w.heap[C]? = some (costObj e es s ss k c)) := hC
  have f5 := frozenOf 5 hC
  have c5 := cellOf (i := 5) hC rfl
  clear hC
  go_enter Yba.func15, Yba.ntmps15
  go_upto_region 0 with fail
  go_cut [15] (fun v wd => v = .bool (decide (0 < one)) ∧ w = wd)
  case first =>
    by_cases h1 : 0 < one
    · go_wp2
      go_meet
      exact ⟨by simp [h1], rfl⟩
    · go_wp2
      go_meet
      exact ⟨by simp [h1], rfl⟩
  obtain ⟨rfl, rfl⟩ := hcut
  go_upto_if 15 with fail
  go_cut [] (fun wd => wd.heap[C]? = some (costObj e es s ss k (c && !decide (0 < one))) ∧ Kept C w wd)
  case first =>
    by_cases h1 : 0 < one
    · go_wp2
      go_meet
      refine ⟨?_, (Kept.refl C w).set _ _⟩
      rw [heap_setCell_at _ HC.out]
      simp [h1]
    · go_wp2
      go_meet
      refine ⟨?_, Kept.refl C w⟩
      rw [HC.out]
      simp [h1]
  case rest =>
    obtain ⟨hC1, hK1⟩ := hcut
    clear HC f5 c5
    obtain ⟨w1, hw1⟩ : ∃ x, x = wc := ⟨_, rfl⟩
    subst hw1
    have c0 := cellOf (i := 0) hC1 rfl
    have f0 := frozenOf 0 hC1
    have hp1 : w1.cell? ⟨R, o + 8, none⟩ = some (.float .f64 part) := by rw [hK1.cell hne]; exact hp
    have HC1 : Hid (w1.heap[C]? = some (costObj e es s ss k (c && !decide (0 < one)))) := hC1
    have HK1 : Hid (Kept C w w1) := hK1
    have HP : Hid (w.cell? ⟨R, o + 8, none⟩ = some (.float .f64 part)) := hp
    clear hC1 hK1 hp
    go_upto_region 2 with fail
    go_cut [] (fun wd => ∃ e1, wd.heap[C]? = some (costObj e1 es s ss k (c && !decide (0 < one))) ∧ Kept C w wd ∧ TermE part one e e1)
    case first =>
      go_region
      go_wp2
      go_meet
      refine ⟨_, heap_setCell_at _ HC1.out, ((HK1.out.drewN _).set _ _), _, ?_, addV_is _ _ _⟩
      have := mulV_is part (addV (fl one) (fl 0) w1.drew) (w1.drewN (1 + addN (fl one) (fl 0)))
      rwa [add_fl one (addV_is (fl one) (fl 0) w1.drew)] at this ⊢
    case rest =>
      obtain ⟨e1, hC2, hK2, hT⟩ := hcut
      clear HC1 HK1 c0 f0
      obtain ⟨w2, hw2⟩ : ∃ x, x = wc := ⟨_, rfl⟩
      subst hw2
      have c2 := cellOf (i := 2) hC2 rfl
      have f2 := frozenOf 2 hC2
      have hp2 : w2.cell? ⟨R, o + 8, none⟩ = some (.float .f64 part) := by rw [hK2.cell hne]; exact HP.out
      have HC2 : Hid (w2.heap[C]? = some (costObj e1 es s ss k (c && !decide (0 < one)))) := hC2
      have HK2 : Hid (Kept C w w2) := hK2
      clear hC2 hK2 hp1
      go_upto_region 3 with fail
      go_region
      go_wp2
      go_end0
      exact ⟨rfl, e1, _, heap_setCell_at _ HC2.out, ((HK2.out.drewN _).set _ _), hT, _, _, mulV_is _ _ _, mulV_is _ _ _, addV_is _ _ _⟩

set_option maxRecDepth 100000 in
set_option maxHeartbeats 2000000 in
theorem add_any (C R o part e es s ss d : Nat) (k c : Bool) (one : Int) (w : World) (hC : w.heap[C]? = some (costObj e es s ss k c)) (hp : w.cell? ⟨R, o + 8, none⟩ = some (.float .f64 part)) (hne : R ≠ C) :
    Calls Yba.prog 16 #[ptr C, at_ R o, .int .i64 one, .int .i64 0, .float .f64 d] w fun v w' => v = .returned (.tuple #[]) ∧
      ∃ e1 es1 s1 ss1, w'.heap[C]? = some (costObj e1 es1 s1 ss1 (k && one == 0) (c && !decide (0 < one))) ∧ Kept C w w' ∧ TermE part one e e1 ∧ TermES part one es es1 ∧ TermS part d s s1 ∧ TermS part (absV d) ss ss1 := by
  have hadd := fun x y w => run_fadd (P := Yba.prog) 25 x y w
  have hmul := fun x y w => run_fmul (P := Yba.prog) 25 x y w
  have HC : Hid (w.heap[C]? = some (costObj e es s ss k c)) := hC
  have f4 := frozenOf 4 hC
  have c4 := cellOf (i := 4) hC rfl
  clear hC
  go_enter Yba.func16, Yba.ntmps16
  go_upto_if 14 with fail
  go_cut [] (fun wd => wd.heap[C]? = some (costObj e es s ss (k && one == 0) c) ∧ Kept C w wd)
  case first =>
    by_cases h1 : one = 0
    · subst h1
      go_wp2
      go_meet
      refine ⟨?_, Kept.refl C w⟩
      rw [HC.out]
      simp
    · have h1' : (one == 0) = false := by simpa using h1
      go_wp2
      go_meet
      refine ⟨?_, (Kept.refl C w).set _ _⟩
      rw [heap_setCell_at _ HC.out]
      simp [h1']
  obtain ⟨hC0, hK0⟩ := hcut
  clear HC f4 c4
  obtain ⟨w0, hw0⟩ : ∃ x, x = wc := ⟨_, rfl⟩
  subst hw0
  have HC0 : Hid (w0.heap[C]? = some (costObj e es s ss (k && one == 0) c)) := hC0
  have HK0 : Hid (Kept C w w0) := hK0
  have f5 := frozenOf 5 hC0
  have c5 := cellOf (i := 5) hC0 rfl
  clear hC0 hK0
  go_upto_region 2 with fail
  go_cut [23] (fun v wd => v = .bool (decide (0 < one)) ∧ w0 = wd)
  case first =>
    by_cases h1 : 0 < one
    · go_wp2
      go_meet
      exact ⟨by simp [h1], rfl⟩
    · go_wp2
      go_meet
      exact ⟨by simp [h1], rfl⟩
  obtain ⟨rfl, rfl⟩ := hcut
  go_upto_if 23 with fail
  go_cut [] (fun wd => wd.heap[C]? = some (costObj e es s ss (k && one == 0) (c && !decide (0 < one))) ∧ Kept C w wd)
  case first =>
    by_cases h1 : 0 < one
    · go_wp2
      go_meet
      refine ⟨?_, HK0.out.set _ _⟩
      rw [heap_setCell_at _ HC0.out]
      simp [h1]
    · go_wp2
      go_meet
      refine ⟨?_, HK0.out⟩
      rw [HC0.out]
      simp [h1]
  obtain ⟨hC1, hK1⟩ := hcut
  clear HC0 HK0 f5 c5
  obtain ⟨w1, hw1⟩ : ∃ x, x = wc := ⟨_, rfl⟩
  subst hw1
  have c0 := cellOf (i := 0) hC1 rfl
  have f0 := frozenOf 0 hC1
  have hp1 : w1.cell? ⟨R, o + 8, none⟩ = some (.float .f64 part) := by rw [hK1.cell hne]; exact hp
  have HC1 : Hid (w1.heap[C]? = some (costObj e es s ss (k && one == 0) (c && !decide (0 < one)))) := hC1
  have HK1 : Hid (Kept C w w1) := hK1
  have HP : Hid (w.cell? ⟨R, o + 8, none⟩ = some (.float .f64 part)) := hp
  clear hC1 hK1 hp
  go_upto_region 4 with fail
  go_cut [] (fun wd => ∃ e1, wd.heap[C]? = some (costObj e1 es s ss (k && one == 0) (c && !decide (0 < one))) ∧ Kept C w wd ∧ TermE part one e e1)
  case first =>
    go_region
    go_wp2
    go_meet
    refine ⟨_, heap_setCell_at _ HC1.out, ((HK1.out.drewN _).set _ _), _, ?_, addV_is _ _ _⟩
    have := mulV_is part (addV (fl one) (fl 0) w1.drew) (w1.drewN (1 + addN (fl one) (fl 0)))
    rwa [add_fl one (addV_is (fl one) (fl 0) w1.drew)] at this ⊢
  obtain ⟨e1, hC2, hK2, hT⟩ := hcut
  clear HC1 HK1 c0 f0 hp1
  obtain ⟨w2, hw2⟩ : ∃ x, x = wc := ⟨_, rfl⟩
  subst hw2
  have HT : Hid (TermE part one e e1) := hT
  have c1 := cellOf (i := 1) hC2 rfl
  have f1 := frozenOf 1 hC2
  have hp2 : w2.cell? ⟨R, o + 8, none⟩ = some (.float .f64 part) := by rw [hK2.cell hne]; exact HP.out
  have HC2 : Hid (w2.heap[C]? = some (costObj e1 es s ss (k && one == 0) (c && !decide (0 < one)))) := hC2
  have HK2 : Hid (Kept C w w2) := hK2
  clear hC2 hK2 hT
  go_upto_region 5 with fail
  go_cut [] (fun wd => ∃ es1, wd.heap[C]? = some (costObj e1 es1 s ss (k && one == 0) (c && !decide (0 < one))) ∧ Kept C w wd ∧ TermES part one es es1)
  case first =>
    go_region_with (first | (go_at_call 7; refine (abs_any _ _).mono ?_; rintro e w' ⟨rfl, rfl⟩))
    all_goals go_wp2
    all_goals go_meet
    all_goals
      refine ⟨_, heap_setCell_at _ HC2.out, (HK2.out.drewN _).set _ _, _, ?_, addV_is _ _ _⟩
      have := mulV_is part (addV (absV (fl one)) (absV (fl 0)) w2.drew) (w2.drewN (1 + addN (absV (fl one)) (absV (fl 0))))
      rwa [add_abs one (addV_is (absV (fl one)) (absV (fl 0)) w2.drew)] at this ⊢
  obtain ⟨es1, hC3, hK3, hTE⟩ := hcut
  clear HC2 HK2 c1 f1 hp2
  obtain ⟨w3, hw3⟩ : ∃ x, x = wc := ⟨_, rfl⟩
  subst hw3
  have HTE : Hid (TermES part one es es1) := hTE
  have hp3 : w3.cell? ⟨R, o + 8, none⟩ = some (.float .f64 part) := by rw [hK3.cell hne]; exact HP.out
  have HC3 : Hid (w3.heap[C]? = some (costObj e1 es1 s ss (k && one == 0) (c && !decide (0 < one)))) := hC3
  have HK3 : Hid (Kept C w w3) := hK3
  clear hC3 hK3 hTE
  go_upto_region 6 with fail
  go_cut [10] (fun v wd => ∃ g, v = .float .f64 g ∧ IsMul part part g ∧ wd.heap[C]? = some (costObj e1 es1 s ss (k && one == 0) (c && !decide (0 < one))) ∧ Kept C w wd)
  case first =>
    go_region
    go_wp2
    go_meet
    exact ⟨_, rfl, mulV_is _ _ _, HC3.out, HK3.out.drewN _⟩
  obtain ⟨g, rfl, hg, hC4, hK4⟩ := hcut
  clear HC3 HK3 hp3
  obtain ⟨w4, hw4⟩ : ∃ x, x = wc := ⟨_, rfl⟩
  subst hw4
  have HG : Hid (IsMul part part g) := hg
  have c2 := cellOf (i := 2) hC4 rfl
  have f2 := frozenOf 2 hC4
  have HC4 : Hid (w4.heap[C]? = some (costObj e1 es1 s ss (k && one == 0) (c && !decide (0 < one)))) := hC4
  have HK4 : Hid (Kept C w w4) := hK4
  clear hC4 hK4 hg
  go_upto_region 7 with fail
  go_cut [] (fun wd => ∃ s1, wd.heap[C]? = some (costObj e1 es1 s1 ss (k && one == 0) (c && !decide (0 < one))) ∧ Kept C w wd ∧ TermS part d s s1)
  case first =>
    go_wp2
    go_meet
    exact ⟨_, heap_setCell_at _ HC4.out, (HK4.out.drewN _).set _ _, g, _, HG.out, mulV_is _ _ _, addV_is _ _ _⟩
  obtain ⟨s1, hC5, hK5, hTS⟩ := hcut
  clear HC4 HK4 c2 f2
  obtain ⟨w5, hw5⟩ : ∃ x, x = wc := ⟨_, rfl⟩
  subst hw5
  have HTS : Hid (TermS part d s s1) := hTS
  have c3 := cellOf (i := 3) hC5 rfl
  have f3 := frozenOf 3 hC5
  have HC5 : Hid (w5.heap[C]? = some (costObj e1 es1 s1 ss (k && one == 0) (c && !decide (0 < one)))) := hC5
  have HK5 : Hid (Kept C w w5) := hK5
  clear hC5 hK5 hTS
  go_upto_region 8 with fail
  go_region_with (first | (go_at_call 7; refine (abs_any _ _).mono ?_; rintro e w' ⟨rfl, rfl⟩))
  all_goals go_wp2
  all_goals go_end0
  all_goals exact ⟨rfl, e1, es1, s1, _, heap_setCell_at _ HC5.out, (HK5.out.drewN _).set _ _, HT.out, HTE.out, HTS.out, g, _, HG.out, mulV_is _ _ _, addV_is _ _ _⟩
end Go.Proofs.Ybulkacia.Ex
