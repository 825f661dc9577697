import Derived.Test.YbulkacksRows
import Derived.WalkKit
import Derived.WalkSpells
import Derived.Below
import Derived.Outline
import Derived.BigRegion
import Derived.Deep.QuietTactic
import Derived.BigQuiet
import Derived.Deep.RegionHeld3
import Derived.Deep.LoopGhost
import Derived.Deep.OwnRows
import Derived.Deep.DeepCutAuto
import Derived.Laws.LoneSync
namespace Go.Proofs.Ybulkacks.Q
open Go.RowKit

abbrev ptr (b : Nat) : Value := .pointer (some ⟨b, 0, none⟩)

set_option maxRecDepth 100000 in
set_option maxHeartbeats 400000 in
theorem store64 (b o : Nat) (x : Int) (u : Value) (w : World) (hc : w.cell? ⟨b, o, none⟩ = some u) (hz : w.frozen? ⟨b, o, none⟩ = false) :
    Calls Yba.prog 4 #[.pointer (some ⟨b, o, none⟩), .int .i64 x] w fun e w' => e = .returned (.tuple #[]) ∧ w.setCell ⟨b, o, none⟩ (.int .i64 x) = w' := by
  have hst := run_call_store (P := Yba.prog) Yba.func9 (by kernel_rfl) (by kernel_rfl) (by kernel_rfl) (by kernel_rfl) (k := .i64) (y := x) hc hz
  go_enter Yba.func4, Yba.ntmps4
  go_wp2
  go_end0
  exact ⟨rfl, rfl⟩

/-- b32. -/
def bit (x : Bool) : Int := if x then 1 else 0

set_option maxRecDepth 100000 in
set_option maxHeartbeats 400000 in
theorem b32_any (x : Bool) (w : World) : Calls Yba.prog 11 #[.bool x] w fun e w' => e = .returned (.int .u32 (bit x)) ∧ w' = w := by
  cases x
  · go_enter Yba.func11, Yba.ntmps11
    go_wp2
    go_ret
    exact ⟨rfl, rfl⟩
  · go_enter Yba.func11, Yba.ntmps11
    go_wp2
    go_ret
    exact ⟨rfl, rfl⟩

set_option maxRecDepth 100000 in
set_option maxHeartbeats 400000 in
theorem storeb (b o : Nat) (x : Bool) (u : Value) (w : World) (hc : w.cell? ⟨b, o, none⟩ = some u) (hz : w.frozen? ⟨b, o, none⟩ = false) :
    Calls Yba.prog 5 #[.pointer (some ⟨b, o, none⟩), .bool x] w fun e w' => e = .returned (.tuple #[]) ∧ (w.setCell ⟨b, o, none⟩ (.int .u32 (bit x))).drew = w' := by
  have hst := run_call_store (P := Yba.prog) (w := w.drew) Yba.func10 (by kernel_rfl) (by kernel_rfl) (by kernel_rfl) (by kernel_rfl) (k := .u32) (y := bit x) (u := u) (a := ⟨b, o, none⟩) hc hz
  go_enter Yba.func5, Yba.ntmps5
  go_wp2
  go_region_with (go_at_call 11; refine (b32_any x _).mono ?_; rintro e w' ⟨rfl, rfl⟩)
  all_goals go_wp2
  all_goals go_end0
  all_goals exact ⟨rfl, rfl⟩

set_option maxRecDepth 100000 in
set_option maxHeartbeats 400000 in
theorem load64 (b o : Nat) (x : Int) (w : World) (hc : w.cell? ⟨b, o, none⟩ = some (.int .i64 x)) :
    Calls Yba.prog 8 #[.pointer (some ⟨b, o, none⟩)] w fun e w' => e = .returned (.int .i64 x) ∧ w' = w := by
  have hl := run_call_load (P := Yba.prog) Yba.func13 (by kernel_rfl) (by kernel_rfl) (by kernel_rfl) .i64 (by kernel_rfl) hc
  go_enter Yba.func8, Yba.ntmps8
  go_wp2
  go_ret
  exact ⟨rfl, rfl⟩

set_option maxRecDepth 100000 in
set_option maxHeartbeats 400000 in
theorem loadb (b o : Nat) (x : Bool) (w : World) (hc : w.cell? ⟨b, o, none⟩ = some (.int .u32 (bit x))) :
    Calls Yba.prog 12 #[.pointer (some ⟨b, o, none⟩)] w fun e w' => e = .returned (.bool x) ∧ w' = w := by
  have hl := run_call_load (P := Yba.prog) Yba.func14 (by kernel_rfl) (by kernel_rfl) (by kernel_rfl) .u32 (by kernel_rfl) hc
  cases x
  · simp only [bit, Bool.false_eq_true, if_false] at hl
    go_enter Yba.func12, Yba.ntmps12
    go_wp2
    go_ret
    exact ⟨rfl, rfl⟩
  · simp only [bit, if_true] at hl
    go_enter Yba.func12, Yba.ntmps12
    go_wp2
    go_ret
    exact ⟨rfl, rfl⟩
end Go.Proofs.Ybulkacks.Q
