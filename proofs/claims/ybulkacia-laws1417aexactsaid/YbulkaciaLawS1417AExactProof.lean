/-
  THE PROOF OF 'Rows.LawS1417AExactSaid'. The frame is the guide's own shell for a law over slices, integers and a bool, turned to a slice of structs; the walk is ours (YbulkaciaFloat, YbulkaciaCalls, YbulkaciaCost, YbulkaciaMem, YbulkaciaPlace, YbulkaciaLaw).
-/
import Derived.Test.YbulkaciaLaw
import Derived.WalkKit
import Derived.ProofKit
import Derived.OpenShut
import Derived.ShutString
import Derived.ChangeOld
import Derived.Below
import Derived.Deep.Slices
import Derived.Deep.Strs
namespace Go.Proofs.Ybulkacia.lawS1417AExact
open Go.ChangeShapes Go.WideShapes Go.ChangeAt Go.RowKit Go.Deep
set_option linter.unusedVariables false

theorem own : ownKnob Yba.prog.godebug = none := by kernel_rfl
theorem laidOut : laidOutB Yba.prog = true := by kernel_rfl
theorem cells27 : Yba.prog.cellsOf 27 = 5 := by kernel_rfl
theorem cells2 : Yba.prog.cellsOf 2 = 1 := by kernel_rfl
theorem cells25 : Yba.prog.cellsOf 25 = 1 := by kernel_rfl

def intAt : Value → Int | .int _ z => z | _ => 0
def floatAt : Value → Nat | .float _ b => b | _ => 0

def IsRow (k : IntKind) (w : World) (a : Option Addr) (len cap : Nat) (zs : List Int) : Prop :=
  (a = none ∧ len = 0 ∧ cap = 0 ∧ zs = []) ∨
  ∃ x, a = some x ∧ len ≤ cap ∧ cap ≤ maxLen ∧ zs.length = cap ∧ (∀ i, i < zs.length → w.cell? (x.add i) = some (.int k (zs.getD i 0))) ∧ ∀ n ∈ zs, (Lit.int k n).wf = true

theorem row_of (a0 : Option Addr) (len0 cap0 : Nat) (z0 : List Int) (w : World) (w0 : IsRow .i64 w a0 len0 cap0 z0) : Ex.Row w a0 len0 (fun j => z0.getD j 0) := by
  intro hpos
  rcases w0 with ⟨_, h, _, _⟩ | ⟨x, rfl, hlc, hcm, hz, hcell, hwf⟩
  · omega
  · obtain ⟨b, off, rfl, hc⟩ := ints_at hcell (by omega)
    exact ⟨b, off, rfl, World.block_lt_of_cell? _ _ (hc 0 (by omega)), fun j hj => hc j (by omega)⟩

section
variable {H : Type} {enc : TypeId × Value → H} {W : World} {base : Nat} {spare : Nat → Bool} {held : Bool}

theorem trod_float {P : Program} {w : World} {t : TypeId} {k : FloatKind} {fuel : Nat} {cs : List Value} {x : DataW H × List MemPlace} (ht : P.underlying t = some (.float k)) (h : DataW.trod enc P w base spare held fuel t cs = some x) : ∃ b, cs = [.float k b] := by
  cases fuel with
  | zero => simp [DataW.trod] at h
  | succ n =>
    unfold DataW.trod at h
    rw [ht] at h
    split at h <;> simp_all

theorem trod_struct5 {P : Program} {w : World} {t : TypeId} {f0 f1 f2 f3 f4 : Field} {fuel : Nat} {cs : List Value} {x : DataW H × List MemPlace} (ht : P.underlying t = some (.struct #[f0, f1, f2, f3, f4])) (h : DataW.trod enc P w base spare held fuel t cs = some x) :
    ∃ y0 y1 y2 y3 y4 n, DataW.trod enc P w base spare held n f0.type ((cs.drop f0.offset).take (P.cellsOf f0.type)) = some y0 ∧ DataW.trod enc P w base spare held n f1.type ((cs.drop f1.offset).take (P.cellsOf f1.type)) = some y1 ∧
      DataW.trod enc P w base spare held n f2.type ((cs.drop f2.offset).take (P.cellsOf f2.type)) = some y2 ∧ DataW.trod enc P w base spare held n f3.type ((cs.drop f3.offset).take (P.cellsOf f3.type)) = some y3 ∧ DataW.trod enc P w base spare held n f4.type ((cs.drop f4.offset).take (P.cellsOf f4.type)) = some y4 := by
  obtain ⟨xs, n, _, rfl, hl, hlen, hf⟩ := DataW.trod_struct ht h
  match xs, hlen with
  | [y0, y1, y2, y3, y4], _ => exact ⟨y0, y1, y2, y3, y4, n, by simpa using hf 0 f0 rfl, by simpa using hf 1 f1 rfl, by simpa using hf 2 f2 rfl, by simpa using hf 3 f3 rfl, by simpa using hf 4 f4 rfl⟩

set_option maxRecDepth 100000 in
/-- One element: five cells. -/
theorem elem {fuel : Nat} {a : Addr} {cs : List Value} {x : DataW H × List MemPlace} (hc : W.cells? base a 5 = some cs) (h : DataW.trod enc Yba.prog W base spare held fuel 27 cs = some x) :
    ∃ z0 z1 p z3 z4, W.cell? (a.add 0) = some (.int .i64 z0) ∧ W.cell? (a.add 1) = some (.int .i64 z1) ∧ W.cell? (a.add 2) = some (.float .f64 p) ∧ W.cell? (a.add 3) = some (.int .i64 z3) ∧ W.cell? (a.add 4) = some (.int .i64 z4) := by
  obtain ⟨_, hlen, hget⟩ := World.cells?_some hc
  obtain ⟨y0, y1, y2, y3, y4, n, h0, h1, h2, h3, h4⟩ := trod_struct5 Yba.underlying27 h
  match cs, hlen with
  | [v0, v1, v2, v3, v4], _ =>
    simp only [cells2, cells25, List.drop_zero, List.drop_succ_cons, List.take_succ_cons, List.take_zero] at h0 h1 h2 h3 h4
    obtain ⟨z0, e0, _⟩ := DataW.trod_int Yba.underlying2 h0
    obtain ⟨z1, e1, _⟩ := DataW.trod_int Yba.underlying2 h1
    obtain ⟨p, e2⟩ := trod_float Yba.underlying25 h2
    obtain ⟨z3, e3, _⟩ := DataW.trod_int Yba.underlying2 h3
    obtain ⟨z4, e4, _⟩ := DataW.trod_int Yba.underlying2 h4
    simp only [List.cons.injEq, and_true] at e0 e1 e2 e3 e4
    subst e0; subst e1; subst e2; subst e3; subst e4
    exact ⟨z0, z1, p, z3, z4, hget 0 (by omega), hget 1 (by omega), hget 2 (by omega), hget 3 (by omega), hget 4 (by omega)⟩

theorem data_of {fuel : Nat} {a : Option Addr} {len cap : Nat} {x : DataW H × List MemPlace} (h : DataW.trod enc Yba.prog W base spare held fuel 22 [.slice a len cap] = some x) :
    ∃ m, Ex.Data W a len m := by
  rcases open_slice Yba.underlying22 h with ⟨hcs, _⟩ | ⟨x', l, c, m, n, D, Pl, hcs, _, hl, _, hm, _, hel⟩
  · simp at hcs
    obtain ⟨rfl, rfl, rfl⟩ := hcs
    exact ⟨⟨fun _ => 0, fun _ => 0, fun _ => 0, fun _ => 0, fun _ => 0⟩, fun h => absurd h (by omega)⟩
  · simp at hcs
    obtain ⟨rfl, rfl, rfl⟩ := hcs
    have hle : len ≤ m := by rw [hm]; split <;> omega
    have hall : ∀ i, i < len → ∃ z0 z1 p z3 z4, W.cell? ((x'.add (i * 5)).add 0) = some (.int .i64 z0) ∧ W.cell? ((x'.add (i * 5)).add 1) = some (.int .i64 z1) ∧ W.cell? ((x'.add (i * 5)).add 2) = some (.float .f64 p) ∧ W.cell? ((x'.add (i * 5)).add 3) = some (.int .i64 z3) ∧ W.cell? ((x'.add (i * 5)).add 4) = some (.int .i64 z4) := fun i hi => by
      obtain ⟨cs', h1, h2⟩ := hel i (by omega)
      rw [cells27] at h1
      exact elem h1 h2
    refine ⟨⟨fun j => intAt ((W.cell? ((x'.add (j * 5)).add 0)).getD undef), fun j => intAt ((W.cell? ((x'.add (j * 5)).add 1)).getD undef), fun j => floatAt ((W.cell? ((x'.add (j * 5)).add 2)).getD undef), fun j => intAt ((W.cell? ((x'.add (j * 5)).add 3)).getD undef), fun j => intAt ((W.cell? ((x'.add (j * 5)).add 4)).getD undef)⟩, fun hpos => ?_⟩
    obtain ⟨b, off, spot⟩ := x'
    have hspot : spot = none := by
      obtain ⟨z, _, _, _, _, hz, _⟩ := hall 0 hpos
      simpa [Addr.add] using World.cell?_spot hz
    subst hspot
    refine ⟨b, off, rfl, ?_, fun j hj => ?_⟩
    · obtain ⟨z, _, _, _, _, hz, _⟩ := hall 0 hpos
      simp only [add_plain] at hz
      exact World.block_lt_of_cell? _ _ hz
    · obtain ⟨z0, z1, p, z3, z4, h0, h1, h2, h3, h4⟩ := hall j hj
      dsimp only
      rw [h0, h1, h2, h3, h4]
      simp only [add_plain, Nat.add_zero] at h0 h1 h2 h3 h4
      exact ⟨h0, h1, h2, h3, h4⟩
end

set_option maxRecDepth 100000 in
set_option maxHeartbeats 400000 in
theorem walk (a0 : Option Addr) (len0 cap0 : Nat) (m : Ex.Ms) (a1 : Option Addr) (len1 cap1 : Nat) (z1 : List Int) (a2 : Int) (a3 : Bool) (w : World) (w0 : Ex.Data w a0 len0 m) (w1 : IsRow .i64 w a1 len1 cap1 z1) (w2 : (Lit.int .u8 a2).wf = true) :
    Calls Yba.prog 3 #[.slice a0 len0 cap0, .slice a1 len1 cap1, .int .u8 a2, .bool a3] w fun e w' => e = .returned (.bool true) ∧ Below w.heap.size w w' := by
  have r1 := row_of a1 len1 cap1 z1 w w1
  have b2 := bounds_u8 w2
  clear w1 w2
  by_cases hl0 : 1024 < len0
  · clear w0 r1 b2
    go_enter Yba.func3, Yba.ntmps3
    go_wp2
    go_ret
    exact ⟨rfl, Below.refl _ _⟩
  · exact Ex.law a0 len0 cap0 m a1 len1 cap1 _ a2 a3 w (by omega) b2.1 w0 r1

set_option maxRecDepth 100000 in
theorem lifted (os : Os) (started : os.Started) (H : Type) (enc : TypeId × Value → H) :
    ReturnsInHanded {} Yba.checked os 3 .any (Rows.lawS1417AExactSpec.pre6 enc Yba.prog Yba.f3 Rows.lawS1417AExactRow.domain false) (Rows.lawS1417AExactSpec.post enc Yba.prog Yba.f3 false true false false) := by
  refine returnsInHanded_of_change (C := Yba.checked) own started (by kernel_rfl) Yba.func3
    (ChangeSpec.witness6 (enc := enc) (C := Yba.checked) false ⟨#[], #[.slice none 0 0, .slice none 0 0, .int .u8 0, .bool false], []⟩ 8 (by kernel_rfl) (by kernel_rfl) (by kernel_rfl) (by kernel_rfl)) ?_
  intro W base args ds gs before hval0 hW hcnd _
  have hval : ∀ (j : Nat) t v, Yba.f3.params[j]? = some t → args[j]? = some v → Value.okWide Yba.prog W .any base t v := hval0
  have hW' := hW
  obtain ⟨p, q, hA0, hV, rfl, hfz, hnd⟩ := hW
  have hA : DataW.TrodAll enc Yba.prog W 0 (fun _ => true) true Yba.f3.params.toList args.toList ds p := hA0
  rw [Yba.params3] at hA hval
  obtain ⟨v0, vs0, d0, ds0, p0, q0, hargs, rfl, rfl, h0, r0⟩ := trodAll_cons hA
  obtain ⟨v1, vs1, d1, ds1, p1, q1, rfl, rfl, rfl, h1, r1⟩ := trodAll_cons r0
  obtain ⟨v2, vs2, d2, ds2, p2, q2, rfl, rfl, rfl, h2, r2⟩ := trodAll_cons r1
  obtain ⟨v3, vs3, d3, ds3, p3, q3, rfl, rfl, rfl, h3, r3⟩ := trodAll_cons r2
  obtain ⟨rfl, rfl, rfl⟩ := trodAll_nil r3
  obtain rfl : args = #[v0, v1, v2, v3] := by cases args; simp_all
  obtain ⟨rfl, rfl⟩ := trodVars_none hV
  obtain ⟨a0, len0, cap0, rfl⟩ := okWide_slice Yba.underlying22 (hval 0 22 v0 rfl rfl)
  have k0 := h0
  have lt0 : ∀ x ∈ p0, x.block < W.heap.size := by obtain ⟨m, hm⟩ := k0; exact DataW.trod_lt m _ _ _ hm
  obtain ⟨m, w0⟩ : ∃ m, Ex.Data W a0 len0 m := by
    obtain ⟨fuel, hf⟩ := h0
    exact data_of (by simpa [Value.cells] using hf)
  obtain ⟨a1, len1, cap1, rfl⟩ := okWide_slice Yba.underlying23 (hval 1 23 v1 rfl rfl)
  have k1 := h1
  have lt1 : ∀ x ∈ p1, x.block < W.heap.size := by obtain ⟨m, hm⟩ := k1; exact DataW.trod_lt m _ _ _ hm
  obtain ⟨z1, w1⟩ : ∃ zs, IsRow .i64 W a1 len1 cap1 zs := by
    obtain ⟨fuel, hf⟩ := h1
    rcases open_ints Yba.underlying23 Yba.underlying2 (by kernel_rfl) hf with ⟨hcs, _⟩ | ⟨x, l, c, zs, hcs, _, hl, hm, hz, _, hcell, hwz⟩
    · simp [Value.cells] at hcs
      obtain ⟨rfl, rfl, rfl⟩ := hcs
      exact ⟨[], .inl ⟨rfl, rfl, rfl, rfl⟩⟩
    · simp [Value.cells] at hcs
      obtain ⟨rfl, rfl, rfl⟩ := hcs
      exact ⟨zs, .inr ⟨_, rfl, hl, hm, by simpa using hz, hcell, hwz⟩⟩
  obtain ⟨a2, rfl, rfl, rfl, w2⟩ := open_int Yba.underlying5 (hval 2 5 v2 rfl rfl) h2
  obtain ⟨a3, rfl, rfl, rfl⟩ := open_bool Yba.underlying4 (hval 3 4 v3 rfl rfl) h3
  clear hA0 hval0
  refine (walk a0 len0 cap0 m a1 len1 cap1 z1 a2 a3 W w0 w1 w2).mono fun e W' ⟨he, bel⟩ => ?_
  subst he
  exact ⟨_, rfl, _, _, _, [], _, [], hW', trodAll_mk1 (shut_bool Yba.underlying4 _), (trodAll_cons_mk (Below.trod laidOut (by kernel_rfl) (of_decide_eq_true (by kernel_rfl)) k0 bel lt0) (trodAll_cons_mk (Below.trod laidOut (by kernel_rfl) (of_decide_eq_true (by kernel_rfl)) k1 bel lt1) (trodAll_cons_mk (shut_int Yba.underlying5 w2) (trodAll_cons_mk (shut_bool Yba.underlying4 a3) trodAll_mk0)))), rfl, bel.frame _, fun h => by cases h⟩

theorem over : Rows.lawS1417AExactRow.holds Yba.pinned (OpenSpec.ofChange Rows.lawS1417AExactSpec) :=
  OpenClaim.holds_of_wide 3 Yba.f3 rfl rfl rfl rfl rfl rfl rfl ⟨rfl, rfl, rfl, rfl, rfl⟩ rfl rfl rfl rfl rfl (by kernel_rfl) Yba.func3 (by kernel_rfl)
    (of_decide_eq_true (by kernel_rfl)) (by unfold Func.isWrapper; first | (rw [if_pos (by decide +kernel)]; kernel_rfl) | (rw [if_neg (by decide +kernel)]; exact ⟨rfl, rfl⟩))
    (fun os started H enc _ => lifted os started H enc)

/-- ████ THE STATEMENT ████ -/
theorem proved : Rows.LawS1417AExactSaid := over
end Go.Proofs.Ybulkacia.lawS1417AExact

namespace Go.Proofs.Ybulkacia
theorem exact_said : Rows.LawS1417AExactSaid := lawS1417AExact.proved
end Go.Proofs.Ybulkacia
