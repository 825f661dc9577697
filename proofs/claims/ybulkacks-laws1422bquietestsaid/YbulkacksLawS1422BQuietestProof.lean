/-
  THE PROOF OF 'Rows.LawS1422BQuietestSaid'. The frame is the guide's own shell for a law over one slice, turned to a slice of structs; the walk is ours (YbulkacksAtoms, YbulkacksPtrMap, YbulkacksMem, YbulkacksQuiet, YbulkacksLaw).
-/
import Derived.Test.YbulkacksLaw
import Derived.WalkKit
import Derived.ProofKit
import Derived.OpenShut
import Derived.ShutString
import Derived.ChangeOld
import Derived.Below
import Derived.Deep.Slices
import Derived.Deep.Strs
namespace Go.Proofs.Ybulkacks.lawS1422BQuietest
open Go.ChangeShapes Go.WideShapes Go.ChangeAt Go.RowKit Go.Deep
set_option linter.unusedVariables false

theorem own : ownKnob Yba.prog.godebug = none := by kernel_rfl
theorem laidOut : laidOutB Yba.prog = true := by kernel_rfl
theorem cells63 : Yba.prog.cellsOf 63 = 3 := by kernel_rfl
theorem cells2 : Yba.prog.cellsOf 2 = 1 := by kernel_rfl
theorem cells4 : Yba.prog.cellsOf 4 = 1 := by kernel_rfl

def intOf' : Value → Int | .int _ z => z | _ => 0
def boolOf' : Value → Bool | .bool b => b | _ => false

section
variable {H : Type} {enc : TypeId × Value → H} {W : World} {base : Nat} {spare : Nat → Bool} {held : Bool}

/-- One element: three cells. -/
theorem elem {fuel : Nat} {a : Addr} {cs : List Value} {x : DataW H × List MemPlace} (hc : W.cells? base a 3 = some cs) (h : DataW.trod enc Yba.prog W base spare held fuel 63 cs = some x) :
    ∃ z b1 b2, W.cell? (a.add 0) = some (.int .i64 z) ∧ W.cell? (a.add 1) = some (.bool b1) ∧ W.cell? (a.add 2) = some (.bool b2) := by
  obtain ⟨_, hlen, hget⟩ := World.cells?_some hc
  obtain ⟨y0, y1, y2, n, _, _, h0, h1, h2⟩ := trod_struct3 Yba.underlying63 h
  match cs, hlen with
  | [v0, v1, v2], _ =>
    simp only [cells2, cells4, List.drop_zero, List.drop_succ_cons, List.take_succ_cons, List.take_zero] at h0 h1 h2
    obtain ⟨z, e0, _⟩ := DataW.trod_int Yba.underlying2 h0
    obtain ⟨b1, e1, _⟩ := DataW.trod_bool Yba.underlying4 h1
    obtain ⟨b2, e2, _⟩ := DataW.trod_bool Yba.underlying4 h2
    simp only [List.cons.injEq, and_true] at e0 e1 e2
    subst e0; subst e1; subst e2
    exact ⟨z, b1, b2, hget 0 (by omega), hget 1 (by omega), hget 2 (by omega)⟩

theorem data_of {fuel : Nat} {a : Option Addr} {len cap : Nat} {x : DataW H × List MemPlace} (h : DataW.trod enc Yba.prog W base spare held fuel 22 [.slice a len cap] = some x) :
    ∃ last wt okb, Q.Data W a len last wt okb := by
  rcases open_slice Yba.underlying22 h with ⟨hcs, _⟩ | ⟨x', l, c, m, n, D, Pl, hcs, _, hl, _, hm, _, hel⟩
  · simp at hcs
    obtain ⟨rfl, rfl, rfl⟩ := hcs
    exact ⟨fun _ => 0, fun _ => false, fun _ => false, fun h => absurd h (by omega)⟩
  · simp at hcs
    obtain ⟨rfl, rfl, rfl⟩ := hcs
    have hle : len ≤ m := by rw [hm]; split <;> omega
    have hall : ∀ i, i < len → ∃ z b1 b2, W.cell? ((x'.add (i * 3)).add 0) = some (.int .i64 z) ∧ W.cell? ((x'.add (i * 3)).add 1) = some (.bool b1) ∧ W.cell? ((x'.add (i * 3)).add 2) = some (.bool b2) := fun i hi => by
      obtain ⟨cs', h1, h2⟩ := hel i (by omega)
      rw [cells63] at h1
      exact elem h1 h2
    refine ⟨fun j => intOf' ((W.cell? ((x'.add (j * 3)).add 0)).getD undef), fun j => boolOf' ((W.cell? ((x'.add (j * 3)).add 1)).getD undef), fun j => boolOf' ((W.cell? ((x'.add (j * 3)).add 2)).getD undef), fun hpos => ?_⟩
    obtain ⟨b, off, spot⟩ := x'
    have hspot : spot = none := by
      obtain ⟨z, _, _, hz, _, _⟩ := hall 0 hpos
      simpa [Addr.add] using World.cell?_spot hz
    subst hspot
    refine ⟨b, off, rfl, ?_, fun j hj => ?_⟩
    · obtain ⟨z, _, _, hz, _, _⟩ := hall 0 hpos
      simp only [add_plain] at hz
      exact World.block_lt_of_cell? _ _ hz
    · obtain ⟨z, b1, b2, hz, h1, h2⟩ := hall j hj
      dsimp only
      rw [hz, h1, h2]
      simp only [add_plain, Nat.add_zero] at hz h1 h2
      exact ⟨hz, h1, h2⟩
end

set_option maxRecDepth 100000 in
set_option maxHeartbeats 400000 in
theorem walk (a0 : Option Addr) (len0 cap0 : Nat) (last : Nat → Int) (wt okb : Nat → Bool) (w : World) (w0 : Q.Data w a0 len0 last wt okb) :
    Calls Yba.prog 3 #[.slice a0 len0 cap0] w fun e w' => e = .returned (.bool true) ∧ Below w.heap.size w w' := by
  by_cases hl0 : 1024 < len0
  · clear w0
    go_enter Yba.func3, Yba.ntmps3
    go_wp2
    go_ret
    exact ⟨rfl, (Below.refl _ _).alloc (Nat.le_refl _) _⟩
  · exact Q.law a0 len0 cap0 last wt okb w (by omega) w0

set_option maxRecDepth 100000 in
theorem lifted (os : Os) (started : os.Started) (H : Type) (enc : TypeId × Value → H) :
    ReturnsInHanded {} Yba.checked os 3 .any (Rows.lawS1422BQuietestSpec.pre6 enc Yba.prog Yba.f3 Rows.lawS1422BQuietestRow.domain false) (Rows.lawS1422BQuietestSpec.post enc Yba.prog Yba.f3 false true false false) := by
  refine returnsInHanded_of_change (C := Yba.checked) own started (by kernel_rfl) Yba.func3
    (ChangeSpec.witness6 (enc := enc) (C := Yba.checked) false ⟨#[], #[.slice none 0 0], []⟩ 8 (by kernel_rfl) (by kernel_rfl) (by kernel_rfl) (by kernel_rfl)) ?_
  intro W base args ds gs before hval0 hW hcnd _
  have hval : ∀ (j : Nat) t v, Yba.f3.params[j]? = some t → args[j]? = some v → Value.okWide Yba.prog W .any base t v := hval0
  have hW' := hW
  obtain ⟨p, q, hA0, hV, rfl, hfz, hnd⟩ := hW
  have hA : DataW.TrodAll enc Yba.prog W 0 (fun _ => true) true Yba.f3.params.toList args.toList ds p := hA0
  rw [Yba.params3] at hA hval
  obtain ⟨v0, vs0, d0, ds0, p0, q0, hargs, rfl, rfl, h0, r0⟩ := trodAll_cons hA
  obtain ⟨rfl, rfl, rfl⟩ := trodAll_nil r0
  obtain rfl : args = #[v0] := by cases args; simp_all
  obtain ⟨rfl, rfl⟩ := trodVars_none hV
  obtain ⟨a0, len0, cap0, rfl⟩ := okWide_slice Yba.underlying22 (hval 0 22 v0 rfl rfl)
  have k0 := h0
  have lt0 : ∀ x ∈ p0, x.block < W.heap.size := by obtain ⟨m, hm⟩ := k0; exact DataW.trod_lt m _ _ _ hm
  obtain ⟨last, wt, okb, w0⟩ : ∃ last wt okb, Q.Data W a0 len0 last wt okb := by
    obtain ⟨fuel, hf⟩ := h0
    exact data_of (by simpa [Value.cells] using hf)
  clear hA0 hval0
  refine (walk a0 len0 cap0 last wt okb W w0).mono fun e W' ⟨he, bel⟩ => ?_
  subst he
  exact ⟨_, rfl, _, _, _, [], _, [], hW', trodAll_mk1 (shut_bool Yba.underlying4 _), (trodAll_cons_mk (Below.trod laidOut (by kernel_rfl) (of_decide_eq_true (by kernel_rfl)) k0 bel lt0) trodAll_mk0), rfl, bel.frame _, fun h => by cases h⟩

theorem over : Rows.lawS1422BQuietestRow.holds Yba.pinned (OpenSpec.ofChange Rows.lawS1422BQuietestSpec) :=
  OpenClaim.holds_of_wide 3 Yba.f3 rfl rfl rfl rfl rfl rfl rfl ⟨rfl, rfl, rfl, rfl, rfl⟩ rfl rfl rfl rfl rfl (by kernel_rfl) Yba.func3 (by kernel_rfl)
    (of_decide_eq_true (by kernel_rfl)) (by unfold Func.isWrapper; first | (rw [if_pos (by decide +kernel)]; kernel_rfl) | (rw [if_neg (by decide +kernel)]; exact ⟨rfl, rfl⟩))
    (fun os started H enc _ => lifted os started H enc)

/-- ████ THE STATEMENT ████ -/
theorem proved : Rows.LawS1422BQuietestSaid := over
end Go.Proofs.Ybulkacks.lawS1422BQuietest

namespace Go.Proofs.Ybulkacks
theorem quietest_said : Rows.LawS1422BQuietestSaid := lawS1422BQuietest.proved
end Go.Proofs.Ybulkacks
