import Derived.Test.YbulkachmRows
import Derived.WalkKit
import Derived.Below
import Derived.Outline
import Derived.Deep.LoopGhost
namespace Go.Proofs.Ybulkachm.Hold
open Go.RowKit

abbrev ptr (b : Nat) : Value := .pointer (some ⟨b, 0, none⟩)

theorem a56n (w : World) : (Instr.typeAssert .nilIface 29 56 true).run Yba.prog w = .ok (.tuple #[.pointer none, .bool false]) w := by kernel_rfl
theorem a27n (w : World) : (Instr.typeAssert .nilIface 29 27 true).run Yba.prog w = .ok (.tuple #[.pointer none, .bool false]) w := by kernel_rfl
theorem a67n (w : World) : (Instr.typeAssert .nilIface 29 67 true).run Yba.prog w = .ok (.tuple #[.pointer none, .bool false]) w := by kernel_rfl
theorem a56_56 (v : Value) (w : World) : (Instr.typeAssert (.iface 56 v) 29 56 true).run Yba.prog w = .ok (.tuple #[v, .bool true]) w := by kernel_rfl
theorem a56_27 (v : Value) (w : World) : (Instr.typeAssert (.iface 27 v) 29 56 true).run Yba.prog w = .ok (.tuple #[.pointer none, .bool false]) w := by kernel_rfl
theorem a56_67 (v : Value) (w : World) : (Instr.typeAssert (.iface 67 v) 29 56 true).run Yba.prog w = .ok (.tuple #[.pointer none, .bool false]) w := by kernel_rfl
theorem a56_74 (v : Value) (w : World) : (Instr.typeAssert (.iface 74 v) 29 56 true).run Yba.prog w = .ok (.tuple #[.pointer none, .bool false]) w := by kernel_rfl
theorem a27_27 (v : Value) (w : World) : (Instr.typeAssert (.iface 27 v) 29 27 true).run Yba.prog w = .ok (.tuple #[v, .bool true]) w := by kernel_rfl
theorem a27_67 (v : Value) (w : World) : (Instr.typeAssert (.iface 67 v) 29 27 true).run Yba.prog w = .ok (.tuple #[.pointer none, .bool false]) w := by kernel_rfl
theorem a27_74 (v : Value) (w : World) : (Instr.typeAssert (.iface 74 v) 29 27 true).run Yba.prog w = .ok (.tuple #[.pointer none, .bool false]) w := by kernel_rfl
theorem a67_67 (v : Value) (w : World) : (Instr.typeAssert (.iface 67 v) 29 67 true).run Yba.prog w = .ok (.tuple #[v, .bool true]) w := by kernel_rfl
theorem a67_74 (v : Value) (w : World) : (Instr.typeAssert (.iface 74 v) 29 67 true).run Yba.prog w = .ok (.tuple #[.pointer none, .bool false]) w := by kernel_rfl
attribute [local go_sem] a56n a27n a67n a56_56 a56_27 a56_67 a56_74 a27_27 a27_67 a27_74 a67_67 a67_74

/-- 'ctx' is a stack of n value scopes over a bottom, and 'want' is what holds it. -/
def Held (w : World) : Nat → Value → Value → Prop
  | 0, ctx, want =>
    (ctx = .nilIface ∧ want = .pointer none) ∨ (∃ b, ctx = .iface 27 (ptr b) ∧ want = ptr b) ∨
    (∃ b, ctx = .iface 67 (ptr b) ∧ want = ptr b) ∨ (∃ b, ctx = .iface 74 (ptr b) ∧ want = .pointer none)
  | n + 1, ctx, want => ∃ b c, b < w.heap.size ∧ ctx = .iface 56 (ptr b) ∧ w.cell? ⟨b, 0, none⟩ = some c ∧ Held w n c want

set_option maxRecDepth 100000 in
set_option maxHeartbeats 400000 in
theorem holder (n : Nat) (ctx want : Value) (w : World) (h : Held w n ctx want) :
    Calls Yba.prog 9 #[ctx] w fun e w' => e = .returned want ∧ w' = w := by
  go_enter Yba.func9, Yba.ntmps9
  go_wp2
  go_loopg [0] n (fun k p wr => wr = w ∧ Held w k p want)
  case atStart => exact ⟨rfl, h⟩
  case round =>
    obtain ⟨rfl, hh⟩ := hrel
    clear h
    cases gk with
    | zero =>
      unfold Held at hh
      rcases hh with ⟨rfl, rfl⟩ | ⟨b, rfl, rfl⟩ | ⟨b, rfl, rfl⟩ | ⟨b, rfl, rfl⟩
      · go_wp2
        go_ret
        exact ⟨rfl, rfl⟩
      · go_wp2
        go_ret
        exact ⟨rfl, rfl⟩
      · go_wp2
        go_ret
        exact ⟨rfl, rfl⟩
      · go_wp2
        go_ret
        exact ⟨rfl, rfl⟩
    | succ k =>
      unfold Held at hh
      obtain ⟨b, c, hb, rfl, hc, hh⟩ := hh
      go_wp2
      go_roundg k
      case measure => omega
      case rel => exact ⟨rfl, hh⟩
end Go.Proofs.Ybulkachm.Hold
