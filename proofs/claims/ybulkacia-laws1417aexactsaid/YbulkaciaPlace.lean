import Derived.Test.YbulkaciaCost
import Derived.Test.YbulkaciaMem
import Derived.Laws.Rows
namespace Go.Proofs.Ybulkacia.Ex
open Go.RowKit Go.Fl
attribute [local go_sem] run_store_float

/-! ### The plain sums -/

/-- The square's term. -/
def Dsq (l load : Int) (d : Nat) : Prop := ∃ m a, IsMul 4611686018427387904 (fl load) m ∧ IsAdd m (fl l) a ∧ IsMul (fl l) a d

theorem Dsq.sim {l load : Int} {d d' : Nat} (h : Dsq l load d) (h' : Dsq l load d') : Sim d d' := by
  obtain ⟨m, a, h1, h2, h3⟩ := h
  obtain ⟨m', a', h1', h2', h3'⟩ := h'
  exact h3.sim h3' (Sim.refl _) (h2.sim h2' (h1.sim h1' (Sim.refl _) (Sim.refl _)) (Sim.refl _))

theorem Dsq.lt {l load : Int} {d : Nat} (h : Dsq l load d) : d < 2 ^ 64 := by
  obtain ⟨m, a, _, _, h3⟩ := h
  exact h3.lt

/-- What the sum of the first t terms may be. -/
def PosSum (T : Nat → Nat → Nat → Prop) : Nat → Nat → Prop
  | 0, e => e = 0
  | t + 1, e => ∃ e0, PosSum T t e0 ∧ T t e0 e

theorem PosSum.sim {T : Nat → Nat → Nat → Prop} (hT : ∀ t e0 e e0' e', T t e0 e → T t e0' e' → Sim e0 e0' → Sim e e') : ∀ {t e e'}, PosSum T t e → PosSum T t e' → Sim e e'
  | 0, e, e', h, h' => by rw [show e = 0 from h, show e' = 0 from h']; exact Sim.refl _
  | t + 1, e, e', ⟨e0, h, k⟩, ⟨e0', h', k'⟩ => hT t e0 e e0' e' k k' (PosSum.sim hT h h')

/-- The data of the metrics. -/
structure Mt where
  lo : Nat → Int
  hi : Nat → Int
  l : Nat → Int
  ld : Nat → Int
  part : Nat → Nat

def Mt.one (m : Mt) (t : Nat) : Int := wrap64 (exc (m.lo t) (m.hi t) (wrap64 (m.ld t + m.l t)) - exc (m.lo t) (m.hi t) (m.ld t))
def Mt.TE (m : Mt) (t e0 e : Nat) : Prop := TermE (m.part t) (m.one t) e0 e
def Mt.TES (m : Mt) (t e0 e : Nat) : Prop := TermES (m.part t) (m.one t) e0 e
def Mt.TS (m : Mt) (t e0 e : Nat) : Prop := ∃ d, Dsq (m.l t) (m.ld t) d ∧ TermS (m.part t) d e0 e
def Mt.TSS (m : Mt) (t e0 e : Nat) : Prop := ∃ d, Dsq (m.l t) (m.ld t) d ∧ TermS (m.part t) (absV d) e0 e

theorem Mt.TE_sim (m : Mt) (t e0 e e0' e' : Nat) (h : m.TE t e0 e) (h' : m.TE t e0' e') (hs : Sim e0 e0') : Sim e e' := by
  obtain ⟨p, h1, h2⟩ := h
  obtain ⟨p', h1', h2'⟩ := h'
  exact h2.sim h2' hs (h1.sim h1' (Sim.refl _) (Sim.refl _))
theorem Mt.TES_sim (m : Mt) (t e0 e e0' e' : Nat) (h : m.TES t e0 e) (h' : m.TES t e0' e') (hs : Sim e0 e0') : Sim e e' := by
  obtain ⟨p, h1, h2⟩ := h
  obtain ⟨p', h1', h2'⟩ := h'
  exact h2.sim h2' hs (h1.sim h1' (Sim.refl _) (Sim.refl _))
theorem Mt.TS_sim (m : Mt) (t e0 e e0' e' : Nat) (h : m.TS t e0 e) (h' : m.TS t e0' e') (hs : Sim e0 e0') : Sim e e' := by
  obtain ⟨d, hd, g, p, h1, h2, h3⟩ := h
  obtain ⟨d', hd', g', p', h1', h2', h3'⟩ := h'
  exact h3.sim h3' hs (h2.sim h2' (h1.sim h1' (Sim.refl _) (Sim.refl _)) (hd.sim hd'))
theorem Mt.TSS_sim (m : Mt) (t e0 e e0' e' : Nat) (h : m.TSS t e0 e) (h' : m.TSS t e0' e') (hs : Sim e0 e0') : Sim e e' := by
  obtain ⟨d, hd, g, p, h1, h2, h3⟩ := h
  obtain ⟨d', hd', g', p', h1', h2', h3'⟩ := h'
  exact h3.sim h3' hs (h2.sim h2' (h1.sim h1' (Sim.refl _) (Sim.refl _)) (absV_sim hd.lt hd'.lt (hd.sim hd')))

def Mt.kept (m : Mt) : Nat → Bool
  | 0 => true
  | t + 1 => m.kept t && m.one t == 0
def Mt.clean (m : Mt) : Nat → Bool
  | 0 => true
  | t + 1 => m.clean t && !decide (0 < m.one t)

/-- What the cost holds behind t metrics. -/
structure CostAt (m : Mt) (bound : Bool) (t e es s ss : Nat) : Prop where
  e : PosSum m.TE t e
  s : PosSum m.TS t s
  b : bound = true → es = 0 ∧ ss = 0
  nb : bound = false → PosSum m.TES t es ∧ PosSum m.TSS t ss

/-- ex <= 0. -/
def leq0 (e : Nat) : Bool := FloatKind.f64.format.order e 0 == some .lt || FloatKind.f64.format.order e 0 == some .eq

theorem leq0_sim {a b : Nat} (h : Sim a b) : leq0 a = leq0 b := by
  unfold leq0
  rw [show FloatKind.f64.format.order a 0 = FloatKind.f64.format.order b 0 from sim_order h 0]

/-! ### The small callees -/
theorem size58 : (Yba.prog.info? 58).map (·.size) = some 6 := by kernel_rfl

set_option maxRecDepth 100000 in
set_option maxHeartbeats 400000 in
theorem newCost (w : World) : Calls Yba.prog 13 #[] w fun v w' => v = .returned (.agg #[.float .f64 0, .float .f64 0, .float .f64 0, .float .f64 0, .bool true, .bool true]) ∧ w.alloc (costObj 0 0 0 0 true true) = w' := by
  go_enter Yba.func13, Yba.ntmps13
  go_wp2
  (try simp only [Exit.inBlock, Exit.then])
  refine bodyPost_ret (results_cell_row rfl _ _ w.heap.size 58 _ (0, 0) _ rfl (Deep.blk_alloc_new _ _) Yba.underlying58 rfl size58) rfl ?_
  exact ⟨rfl, rfl⟩

set_option maxRecDepth 100000 in
set_option maxHeartbeats 400000 in
theorem asBound (C e es s ss : Nat) (k c : Bool) (w : World) (hC : w.heap[C]? = some (costObj e es s ss k c)) :
    Calls Yba.prog 17 #[ptr C] w fun v w' => v = .returned (.tuple #[]) ∧ w'.heap[C]? = some (costObj e 0 s 0 (leq0 e) c) ∧ Kept C w w' := by
  have HC : Hid (w.heap[C]? = some (costObj e es s ss k c)) := hC
  have c0 := cellOf (i := 0) hC rfl
  have c1 := cellOf (i := 1) hC rfl
  have c3 := cellOf (i := 3) hC rfl
  have c4 := cellOf (i := 4) hC rfl
  have f1 := frozenOf 1 hC
  have f3 := frozenOf 3 hC
  have f4 := frozenOf 4 hC
  clear hC
  go_enter Yba.func17, Yba.ntmps17
  go_wp2
  go_end0
  refine ⟨rfl, ?_, (((Kept.refl C w).set _ _).set _ _).set _ _⟩
  rw [heap_setCell_at _ (heap_setCell_at _ (heap_setCell_at _ HC.out))]
  rfl

/-! ### placeCost -/
theorem three (wx : World) (A B D : Obj) : (((wx.alloc A).alloc B).alloc D).heap[wx.heap.size]? = some A ∧ (((wx.alloc A).alloc B).alloc D).heap[wx.heap.size + 1 + 1]? = some D ∧
    (((wx.alloc A).alloc B).alloc D).heap.size = wx.heap.size + 1 + 1 + 1 ∧ ∀ b, b < wx.heap.size → (((wx.alloc A).alloc B).alloc D).heap[b]? = wx.heap[b]? := by
  have s1 := Deep.nblk_alloc wx A
  have s2 := Deep.nblk_alloc (wx.alloc A) B
  have s3 := Deep.nblk_alloc ((wx.alloc A).alloc B) D
  have n1 := Deep.blk_alloc_new wx A
  have n3 := Deep.blk_alloc_new ((wx.alloc A).alloc B) D
  rw [s1] at s2
  rw [s2] at s3 n3
  refine ⟨?_, n3, s3, fun b hb => ?_⟩
  · rw [Deep.blk_alloc_lt _ _ _ (by omega), Deep.blk_alloc_lt _ _ _ (by omega)]; exact n1
  · rw [Deep.blk_alloc_lt _ _ _ (by omega), Deep.blk_alloc_lt _ _ _ (by omega), Deep.blk_alloc_lt _ _ _ (by omega)]

abbrev mtOf (m : Ms) (ld : Nat → Int) (uu : Int) : Mt := { lo := m.lo, hi := m.hi, l := fun j => if uu = 1 then m.B j else m.A j, ld := ld, part := m.part }

/-- The memory in placeCost's loop, behind t metrics: SP the spread, R the result's block, C the cost's. -/
structure PS (w : World) (n : Nat) (m : Ms) (ld : Nat → Int) (cs : Array Value) (SP R C : Nat) (mt : Mt) (bound : Bool) (t : Nat) (wr : World) : Prop where
  st : St w n m ld n wr
  sp : wr.heap[SP]? = some (.cells cs 56)
  res : wr.heap[R]? = some (costObj 0 0 0 0 false false)
  cost : ∃ e es s ss, wr.heap[C]? = some (costObj e es s ss (bound || mt.kept t) (mt.clean t)) ∧ CostAt mt bound t e es s ss

section
variable {w : World} {n : Nat} {m : Ms} {ld : Nat → Int} {cs : Array Value} {SP R C : Nat} {mt : Mt} {bound : Bool} {t : Nat} {wr wy : World}
theorem PS.drewN (h : PS w n m ld cs SP R C mt bound t wr) (q : Nat) : PS w n m ld cs SP R C mt bound t (wr.drewN q) :=
  ⟨⟨h.st.met, h.st.ls, h.st.unit, ⟨h.st.below.os, h.st.below.tape, h.st.below.output, h.st.below.size, h.st.below.block⟩⟩, h.sp, h.res, h.cost⟩
theorem PS.drew (h : PS w n m ld cs SP R C mt bound t wr) : PS w n m ld cs SP R C mt bound t wr.drew := h.drewN 1
end

theorem PS.step {w : World} {n : Nat} {m : Ms} {ld : Nat → Int} {cs : Array Value} {SP : Nat} {mt : Mt} {bound : Bool} {t : Nat} {wr wy : World} (h : PS w n m ld cs SP (SP + 1) (SP + 1 + 1 + 1) mt bound t wr) (hE : SP = w.heap.size + 2 + 2 * n) (hK : Kept (SP + 1 + 1 + 1) wr wy)
    (hc : ∃ e es s ss, wy.heap[SP + 1 + 1 + 1]? = some (costObj e es s ss (bound || mt.kept (t + 1)) (mt.clean (t + 1))) ∧ CostAt mt bound (t + 1) e es s ss) : PS w n m ld cs SP (SP + 1) (SP + 1 + 1 + 1) mt bound (t + 1) wy :=
  ⟨h.st.keep (fun b hb => hK.block b (by omega)) (hK.below (by omega) h.st.below), (hK.block _ (by omega)).trans h.sp, (hK.block _ (by omega)).trans h.res, hc⟩

abbrev six (w : World) (R e es s ss : Nat) (k c : Bool) : World :=
  (((((w.setCell ⟨R, 0, none⟩ (.float .f64 e)).setCell ⟨R, 1, none⟩ (.float .f64 es)).setCell ⟨R, 2, none⟩ (.float .f64 s)).setCell ⟨R, 3, none⟩ (.float .f64 ss)).setCell ⟨R, 4, none⟩ (.bool k)).setCell ⟨R, 5, none⟩ (.bool c)

theorem six_heap {w : World} {R e0 es0 s0 ss0 : Nat} {k0 c0 : Bool} (h : w.heap[R]? = some (costObj e0 es0 s0 ss0 k0 c0)) (e es s ss : Nat) (k c : Bool) : (six w R e es s ss k c).heap[R]? = some (costObj e es s ss k c) := by
  rw [heap_setCell_at _ (heap_setCell_at _ (heap_setCell_at _ (heap_setCell_at _ (heap_setCell_at _ (heap_setCell_at _ h)))))]
  rfl

theorem six_kept (w : World) (R e es s ss : Nat) (k c : Bool) : Kept R w (six w R e es s ss k c) :=
  ((((((Kept.refl R w).set _ _).set _ _).set _ _).set _ _).set _ _).set _ _

set_option maxRecDepth 100000 in
set_option maxHeartbeats 4000000 in
theorem place (w : World) (n : Nat) (m : Ms) (ld : Nat → Int) (cs : Array Value) (uu : Int) (bound : Bool) (wx : World) (hn : n ≤ 1024) (hu : uu = 0 ∨ uu = 1) (hst : St w n m ld n wx) (SP : Nat) (hSP : SP = w.heap.size + 2 + 2 * n) (hsp : wx.heap[SP]? = some (.cells cs 56)) (hcs : cs[2]? = some (.slice (some ⟨w.heap.size, 0, none⟩) n n)) (hsz : wx.heap.size = SP + 1) :
    Calls Yba.prog 5 #[ptr SP, .int .i64 uu, .slice (some ⟨w.heap.size + 1, 0, none⟩) n n, .bool bound] wx fun v w' =>
      ∃ e es s ss, v = .returned (.agg #[.float .f64 e, .float .f64 es, .float .f64 s, .float .f64 ss, .bool (if bound then leq0 e else (mtOf m ld uu).kept n), .bool ((mtOf m ld uu).clean n)]) ∧ CostAt (mtOf m ld uu) bound n e es s ss ∧
        St w n m ld n w' ∧ w.heap.size + 2 + 2 * n < w'.heap.size := by
  have hadd := fun x y w => run_fadd (P := Yba.prog) 25 x y w
  have hmul := fun x y w => run_fmul (P := Yba.prog) 25 x y w
  have HU : Hid (uu = 0 ∨ uu = 1) := hu
  have HST : Hid (St w n m ld n wx) := hst
  have HSP : Hid (wx.heap[SP]? = some (.cells cs 56)) := hsp
  have HCS : Hid (cs[2]? = some (.slice (some ⟨w.heap.size, 0, none⟩) n n)) := hcs
  have HSZ : Hid (wx.heap.size = SP + 1) := hsz
  have HE : Hid (SP = w.heap.size + 2 + 2 * n) := hSP
  clear hu hst hsp hcs hsz hSP
  go_enter Yba.func5, Yba.ntmps5
  go_upto_region 0 with fail
  go_cut [8] (fun v wd => v = ptr (SP + 1) ∧ wd = wx.alloc (costObj 0 0 0 0 false false))
  case first =>
    go_wp2
    go_meet
    exact ⟨by rw [HSZ.out], rfl⟩
  obtain ⟨rfl, rfl⟩ := hcut
  go_upto_region 1 with fail
  go_cut [9] (fun v wd => v = ptr (SP + 1 + 1 + 1) ∧ PS w n m ld cs SP (SP + 1) (SP + 1 + 1 + 1) (mtOf m ld uu) bound 0 wd ∧ wd.heap.size = SP + 1 + 1 + 1 + 1)
  case first =>
    go_wp2_with (go_at_call 13; refine (newCost _).mono ?_; rintro e w' ⟨rfl, rfl⟩)
    go_meet
    obtain ⟨t1, t2, t3, t4⟩ := three wx (costObj 0 0 0 0 false false) (costObj 0 0 0 0 true true) (costObj 0 0 0 0 true true)
    have hz := HSZ.out
    have he := HE.out
    rw [hz] at t1 t2 t3 t4
    refine ⟨by simp [hz], ⟨HST.out.keep (fun b hb => t4 b (by omega)) ?_, ?_, t1, 0, 0, 0, 0, ?_, rfl, rfl, fun _ => ⟨rfl, rfl⟩, fun _ => ⟨rfl, rfl⟩⟩, t3⟩
    · have hb := HST.out.below
      exact ((hb.alloc hb.size _).alloc (by have := hb.size; simp; omega) _).alloc (by have := hb.size; simp; omega) _
    · rw [t4 SP (by omega)]; exact HSP.out
    · rw [t2]; simp [Mt.kept, Mt.clean]
  obtain ⟨rfl, hps, hz0⟩ := hcut
  have HPS0 : Hid (PS w n m ld cs SP (SP + 1) (SP + 1 + 1 + 1) (mtOf m ld uu) bound 0 wc) := hps
  have HZ0 : Hid (wc.heap.size = SP + 1 + 1 + 1 + 1) := hz0
  have hs2 : wc.cell? ⟨SP, 2, none⟩ = some (.slice (some ⟨w.heap.size, 0, none⟩) n n) := cellOf hps.sp HCS.out
  clear hps hz0 HST HSP HSZ
  go_wp2
  clear hs2
  go_loopg [22] n (fun g i wr => ∃ t : Nat, g + t = n ∧ i = .int .i64 (t : Int) ∧ PS w n m ld cs SP (SP + 1) (SP + 1 + 1 + 1) (mtOf m ld uu) bound t wr ∧ wr.heap.size = SP + 1 + 1 + 1 + 1)
  case atStart => exact ⟨0, rfl, rfl, HPS0.out, HZ0.out⟩
  case round =>
    clear HPS0 HZ0
    obtain ⟨t, hgt, rfl, hps, hzz⟩ := hrel
    have HPS : Hid (PS w n m ld cs SP (SP + 1) (SP + 1 + 1 + 1) (mtOf m ld uu) bound t wr) := hps
    have HZ : Hid (wr.heap.size = SP + 1 + 1 + 1 + 1) := hzz
    have hs2 : wr.cell? ⟨SP, 2, none⟩ = some (.slice (some ⟨w.heap.size, 0, none⟩) n n) := cellOf hps.sp HCS.out
    clear hps hzz
    by_cases hlt : t < n
    · have q2 := HPS.out.st.met.cell (i := t * 12 + 2) (by omega)
      rw [metAt_in _ _ _ _ 2 hlt (by omega)] at q2
      have q5 := HPS.out.st.met.cell (i := t * 12 + 5) (by omega)
      rw [metAt_in _ _ _ _ 5 hlt (by omega)] at q5
      have q6 := HPS.out.st.met.cell (i := t * 12 + 6) (by omega)
      rw [metAt_in _ _ _ _ 6 hlt (by omega)] at q6
      have q8 := HPS.out.st.met.cell (i := t * 12 + 8) (by omega)
      rw [metAt_in _ _ _ _ 8 hlt (by omega)] at q8
      simp only [metVal] at q2 q5 q6 q8
      have u0 := cellOf (i := 0) (HPS.out.st.unit t hlt) rfl
      have u1 := cellOf (i := 1) (HPS.out.st.unit t hlt) rfl
      have lt := HPS.out.st.ls.cell hlt
      simp only [hlt, if_true] at lt
      go_upto_region 6 with fail
      go_cut [12, 13] (fun a b wd => a = .int .i64 ((mtOf m ld uu).l t) ∧ b = .int .i64 (ld t) ∧ wr.drew = wd)
      case first =>
        rcases HU.out with rfl | rfl
        · go_region
          go_wp2
          go_meet
          exact ⟨by simp, rfl, rfl⟩
        · go_region
          go_wp2
          go_meet
          exact ⟨by simp, rfl, rfl⟩
      obtain ⟨rfl, rfl, rfl⟩ := hcut
      obtain ⟨L, hL⟩ : ∃ L, (mtOf m ld uu).l t = L := ⟨_, rfl⟩
      rw [hL]
      have HL : Hid ((mtOf m ld uu).l t = L) := hL
      clear hL u0 u1 q2 lt hs2
      go_upto_region 7 with fail
      go_cut [14, 15] (fun a b wd => a = .int .i64 ((mtOf m ld uu).one t) ∧ ∃ d q, b = .float .f64 d ∧ Dsq L (ld t) d ∧ wr.drewN q = wd)
      case first =>
        have HO : Hid ((mtOf m ld uu).one t = wrap64 (exc (m.lo t) (m.hi t) (wrap64 (ld t + L)) - exc (m.lo t) (m.hi t) (ld t))) := by
          show _ = _
          unfold Mt.one
          rw [HL.out]
        go_wp2_with (first | (go_at_call 14; refine (excess w.heap.size (t * 12) (m.lo t) (m.hi t) _ _ ?_ ?_).mono ?_; (exact q5); (exact q6); rintro e w' ⟨rfl, rfl⟩))
        go_meet
        refine ⟨by rw [HO.out], _, _, rfl, ⟨_, _, mulV_is _ _ _, addV_is _ _ _, mulV_is _ _ _⟩, rfl⟩
      obtain ⟨rfl, d, q, rfl, hd, rfl⟩ := hcut
      obtain ⟨O, hO⟩ : ∃ O, (mtOf m ld uu).one t = O := ⟨_, rfl⟩
      rw [hO]
      have HO : Hid ((mtOf m ld uu).one t = O) := hO
      have HD : Hid (Dsq L (ld t) d) := hd
      clear hO hd q5 q6
      obtain ⟨e, es, s, ss, hC, hcost⟩ := HPS.out.cost
      have HCo : Hid (CostAt (mtOf m ld uu) bound t e es s ss) := hcost
      have HC : Hid (wr.heap[SP + 1 + 1 + 1]? = some (costObj e es s ss (bound || (mtOf m ld uu).kept t) ((mtOf m ld uu).clean t))) := hC
      have hne : w.heap.size ≠ SP + 1 + 1 + 1 := by have := HE.out; omega
      have HNe : Hid (w.heap.size ≠ SP + 1 + 1 + 1) := hne
      have HQ8 : Hid (wr.cell? ⟨w.heap.size, t * 12 + 8, none⟩ = some (.float .f64 (m.part t))) := q8
      clear hC hcost hne q8
      cases bound with
      | true =>
        have HCall : Hid (Calls Yba.prog 15 _ _ _) := addBound (SP + 1 + 1 + 1) w.heap.size (t * 12) (m.part t) e es s ss d _ _ O (wr.drewN q) HC.out HQ8.out HNe.out
        go_wp2_with fail
        refine HCall.out.mono ?_
        rintro v w2 ⟨rfl, e1, s1, hC1, hK1, hTE, hTS⟩
        have HH : Hid (w2.heap[SP + 1 + 1 + 1]? = some (costObj e1 es s1 ss (true || (mtOf m ld uu).kept t) ((mtOf m ld uu).clean t && !decide (0 < O))) ∧ Kept (SP + 1 + 1 + 1) (wr.drewN q) w2 ∧ TermE (m.part t) O e e1 ∧ TermS (m.part t) d s s1) := ⟨hC1, hK1, hTE, hTS⟩
        clear hC1 hK1 hTE hTS HCall HC
        go_wp2
        go_roundg (gk - 1)
        case measure => omega
        case rel =>
          have HDL : Dsq ((mtOf m ld uu).l t) ((mtOf m ld uu).ld t) d := by have h := HL.out; subst h; exact HD.out
          refine ⟨t + 1, by omega, by go_num, (HPS.out.drewN q).step HE.out HH.out.2.1 ⟨e1, es, s1, ss, ?_, ?_⟩, HH.out.2.1.size.trans HZ.out⟩
          · rw [HH.out.1]; simp [Mt.clean, HO.out]
          · exact ⟨⟨e, HCo.out.e, by unfold Mt.TE; rw [HO.out]; exact HH.out.2.2.1⟩, ⟨s, HCo.out.s, d, HDL, HH.out.2.2.2⟩, HCo.out.b, fun h => by cases h⟩
      | false =>
        have HCall : Hid (Calls Yba.prog 16 _ _ _) := add_any (SP + 1 + 1 + 1) w.heap.size (t * 12) (m.part t) e es s ss d _ _ O (wr.drewN q) HC.out HQ8.out HNe.out
        go_wp2_with fail
        refine HCall.out.mono ?_
        rintro v w2 ⟨rfl, e1, es1, s1, ss1, hC1, hK1, hTE, hTES, hTS, hTSS⟩
        have HH : Hid (w2.heap[SP + 1 + 1 + 1]? = some (costObj e1 es1 s1 ss1 ((false || (mtOf m ld uu).kept t) && O == 0) ((mtOf m ld uu).clean t && !decide (0 < O))) ∧ Kept (SP + 1 + 1 + 1) (wr.drewN q) w2 ∧ TermE (m.part t) O e e1 ∧ TermES (m.part t) O es es1 ∧ TermS (m.part t) d s s1 ∧ TermS (m.part t) (absV d) ss ss1) := ⟨hC1, hK1, hTE, hTES, hTS, hTSS⟩
        clear hC1 hK1 hTE hTES hTS hTSS HCall HC
        go_wp2
        go_roundg (gk - 1)
        case measure => omega
        case rel =>
          obtain ⟨b1, b2⟩ := HCo.out.nb rfl
          have HDL : Dsq ((mtOf m ld uu).l t) ((mtOf m ld uu).ld t) d := by have h := HL.out; subst h; exact HD.out
          refine ⟨t + 1, by omega, by go_num, (HPS.out.drewN q).step HE.out HH.out.2.1 ⟨e1, es1, s1, ss1, ?_, ?_⟩, HH.out.2.1.size.trans HZ.out⟩
          · rw [HH.out.1]; simp [Mt.clean, Mt.kept, HO.out]
          · exact ⟨⟨e, HCo.out.e, by unfold Mt.TE; rw [HO.out]; exact HH.out.2.2.1⟩, ⟨s, HCo.out.s, d, HDL, HH.out.2.2.2.2.1⟩, (fun h => by cases h), fun _ => ⟨⟨es, b1, by unfold Mt.TES; rw [HO.out]; exact HH.out.2.2.2.1⟩, ⟨ss, b2, d, HDL, HH.out.2.2.2.2.2⟩⟩⟩
    · obtain rfl : t = n := by omega
      clear hs2
      obtain ⟨e, es, s, ss, hC, hcost⟩ := HPS.out.cost
      have HCo : Hid (CostAt (mtOf m ld uu) bound t e es s ss) := hcost
      have HC : Hid (wr.heap[SP + 1 + 1 + 1]? = some (costObj e es s ss (bound || (mtOf m ld uu).kept t) ((mtOf m ld uu).clean t))) := hC
      clear hC hcost
      go_upto_if 70 with fail
      go_cut [] (fun wd => ∃ es2 ss2, wd.heap[SP + 1 + 1 + 1]? = some (costObj e es2 s ss2 (if bound then leq0 e else (mtOf m ld uu).kept t) ((mtOf m ld uu).clean t)) ∧ CostAt (mtOf m ld uu) bound t e es2 s ss2 ∧ Kept (SP + 1 + 1 + 1) wr wd)
      case first =>
        cases bound with
        | true =>
          have HCall : Hid (Calls Yba.prog 17 _ _ _) := asBound (SP + 1 + 1 + 1) e es s ss _ _ wr HC.out
          go_wp2_with fail
          refine HCall.out.mono ?_
          rintro v w2 ⟨rfl, hC1, hK1⟩
          have HH : Hid (w2.heap[SP + 1 + 1 + 1]? = some (costObj e 0 s 0 (leq0 e) ((mtOf m ld uu).clean t)) ∧ Kept (SP + 1 + 1 + 1) wr w2) := ⟨hC1, hK1⟩
          clear hC1 hK1 HCall
          go_wp2
          go_meet
          refine ⟨0, 0, by rw [HH.out.1]; simp, ⟨HCo.out.e, HCo.out.s, fun _ => ⟨rfl, rfl⟩, fun h => by cases h⟩, HH.out.2⟩
        | false =>
          go_wp2
          go_meet
          refine ⟨es, ss, by rw [HC.out]; simp, HCo.out, Kept.refl _ _⟩
      obtain ⟨es2, ss2, hC2, hCo2, hK2⟩ := hcut
      obtain ⟨kp, hkp⟩ : ∃ kp, (if bound then leq0 e else (mtOf m ld uu).kept t) = kp := ⟨_, rfl⟩
      obtain ⟨cl, hcl⟩ : ∃ cl, (mtOf m ld uu).clean t = cl := ⟨_, rfl⟩
      rw [hkp, hcl] at hC2
      have HKP : Hid ((if bound then leq0 e else (mtOf m ld uu).kept t) = kp) := hkp
      have HCL : Hid ((mtOf m ld uu).clean t = cl) := hcl
      have HH : Hid (CostAt (mtOf m ld uu) bound t e es2 s ss2 ∧ Kept (SP + 1 + 1 + 1) wr wc) := ⟨hCo2, hK2⟩
      have hR2 : wc.heap[SP + 1]? = some (costObj 0 0 0 0 false false) := (hK2.block _ (by omega)).trans HPS.out.res
      have c0 := cellOf (i := 0) hC2 rfl
      have c1 := cellOf (i := 1) hC2 rfl
      have c2 := cellOf (i := 2) hC2 rfl
      have c3 := cellOf (i := 3) hC2 rfl
      have c4 := cellOf (i := 4) hC2 rfl
      have c5 := cellOf (i := 5) hC2 rfl
      have r0 := cellOf (i := 0) hR2 rfl
      have r1 := cellOf (i := 1) hR2 rfl
      have r2 := cellOf (i := 2) hR2 rfl
      have r3 := cellOf (i := 3) hR2 rfl
      have r4 := cellOf (i := 4) hR2 rfl
      have r5 := cellOf (i := 5) hR2 rfl
      have fr : ∀ i, wc.frozen? ⟨SP + 1, i, none⟩ = false := fun i => frozenOf i hR2
      have HR2 : Hid (wc.heap[SP + 1]? = some (costObj 0 0 0 0 false false)) := hR2
      clear hC2 hCo2 hK2 hkp hcl hR2 HCo HC
      have HF : Hid (St w t m ld t (six wc (SP + 1) e es2 s ss2 kp cl) ∧ w.heap.size + 2 + 2 * t < (six wc (SP + 1) e es2 s ss2 kp cl).heap.size) := by
        have hk := six_kept wc (SP + 1) e es2 s ss2 kp cl
        have he := HE.out
        have hz := HZ.out
        have h1 := HH.out.2
        refine ⟨HPS.out.st.keep (fun b hb => (hk.block b (by omega)).trans (h1.block b (by omega))) (hk.below (by omega) (h1.below (by omega) HPS.out.st.below)), ?_⟩
        rw [hk.size, h1.size, hz]; omega
      cases bound
      all_goals
        go_wp2
        (try simp only [Exit.inBlock, Exit.then])
        refine bodyPost_ret (results_cell_row rfl _ _ (SP + 1) 58 _ (0, 0) _ rfl (six_heap HR2.out e es2 s ss2 kp cl) Yba.underlying58 rfl size58) rfl ?_
        have hkp := HKP.out
        have hcl := HCL.out
        try simp only [if_true, if_false, Bool.false_eq_true] at hkp
        refine ⟨e, es2, s, ss2, ?_, HH.out.1, HF.out.1, HF.out.2⟩
        rw [hkp, hcl]
end Go.Proofs.Ybulkacia.Ex
