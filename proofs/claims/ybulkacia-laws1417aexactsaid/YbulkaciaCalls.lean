import Derived.Test.YbulkaciaRows
import Derived.Test.YbulkaciaFloat
import Derived.WalkKit
import Derived.WalkSpells
import Derived.Below
import Derived.Outline
import Derived.BigRegion
import Derived.Deep.QuietTactic
import Derived.BigQuiet
import Derived.Deep.RegionHeld3
import Derived.Deep.LoopGhost
import Derived.Deep.OwnRows
import Derived.Deep.DeepCutAuto
import Derived.Laws.Externs
namespace Go.Proofs.Ybulkacia.Ex
open Go.RowKit Go.Fl

abbrev ptr (b : Nat) : Value := .pointer (some ⟨b, 0, none⟩)
abbrev at_ (b o : Nat) : Value := .pointer (some ⟨b, o, none⟩)

/-- How far x lies outside the band. -/
def exc (lo hi x : Int) : Int := if hi < x then wrap64 (x - hi) else if x < lo then wrap64 (lo - x) else 0

set_option maxRecDepth 100000 in
set_option maxHeartbeats 400000 in
theorem zexcess (lo hi x : Int) (w : World) : Calls Yba.prog 6 #[.int .i64 lo, .int .i64 hi, .int .i64 x] w fun e w' => e = .returned (.int .i64 (exc lo hi x)) ∧ w' = w := by
  by_cases h1 : hi < x
  · have HE : Hid (exc lo hi x = wrap64 (x - hi)) := by show _ = _; unfold exc; rw [if_pos h1]
    go_enter Yba.func6, Yba.ntmps6
    go_wp2
    go_ret
    exact ⟨by rw [HE.out]; rfl, rfl⟩
  · by_cases h2 : x < lo
    · have HE : Hid (exc lo hi x = wrap64 (lo - x)) := by show _ = _; unfold exc; rw [if_neg h1, if_pos h2]
      go_enter Yba.func6, Yba.ntmps6
      go_wp2
      go_ret
      exact ⟨by rw [HE.out]; rfl, rfl⟩
    · have HE : Hid (exc lo hi x = 0) := by show _ = _; unfold exc; rw [if_neg h1, if_neg h2]
      go_enter Yba.func6, Yba.ntmps6
      go_wp2
      go_ret
      exact ⟨by rw [HE.out]; rfl, rfl⟩

set_option maxRecDepth 100000 in
set_option maxHeartbeats 400000 in
theorem least (b o : Nat) (lo hi x : Int) (w : World) (hlo : w.cell? ⟨b, o + 5, none⟩ = some (.int .i64 lo)) (hhi : w.cell? ⟨b, o + 6, none⟩ = some (.int .i64 hi)) :
    Calls Yba.prog 23 #[at_ b o, .int .i64 x, .int .i64 x] w fun e w' => e = .returned (.int .i64 (exc lo hi x)) ∧ w' = w := by
  by_cases h1 : hi < x
  · have HE : Hid (exc lo hi x = wrap64 (x - hi)) := by show _ = _; unfold exc; rw [if_pos h1]
    go_enter Yba.func23, Yba.ntmps23
    go_wp2
    go_ret
    exact ⟨by rw [HE.out]; rfl, rfl⟩
  · by_cases h2 : x < lo
    · have HE : Hid (exc lo hi x = wrap64 (lo - x)) := by show _ = _; unfold exc; rw [if_neg h1, if_pos h2]
      go_enter Yba.func23, Yba.ntmps23
      go_wp2
      go_ret
      exact ⟨by rw [HE.out]; rfl, rfl⟩
    · have HE : Hid (exc lo hi x = 0) := by show _ = _; unfold exc; rw [if_neg h1, if_neg h2]
      go_enter Yba.func23, Yba.ntmps23
      go_wp2
      go_ret
      exact ⟨by rw [HE.out]; rfl, rfl⟩

set_option maxRecDepth 100000 in
set_option maxHeartbeats 400000 in
theorem excess (b o : Nat) (lo hi x : Int) (w : World) (hlo : w.cell? ⟨b, o + 5, none⟩ = some (.int .i64 lo)) (hhi : w.cell? ⟨b, o + 6, none⟩ = some (.int .i64 hi)) :
    Calls Yba.prog 14 #[at_ b o, .int .i64 x] w fun e w' => e = .returned (.int .i64 (exc lo hi x)) ∧ w' = w := by
  go_enter Yba.func14, Yba.ntmps14
  go_wp2_with (go_at_call 23; refine (least b o lo hi x _ hlo hhi).mono ?_; rintro e w' ⟨rfl, rfl⟩)
  go_ret
  exact ⟨rfl, rfl⟩

theorem run_bits (x : Nat) (w : World) : (callFunc 19 #[.float .f64 x]).run Yba.prog w = .ok (.value (.int .u64 x)) w := by
  rw [run_callFunc_extern (P := Yba.prog) (e := Extern.MathFloatBits.float64bits) Yba.func19 (by kernel_rfl) (by kernel_rfl) (by kernel_rfl) (by kernel_rfl)]
  rfl
theorem run_frombits (n : Int) (w : World) : (callFunc 18 #[.int .u64 n]).run Yba.prog w = .ok (.value (.float .f64 n.toNat)) w := by
  rw [run_callFunc_extern (P := Yba.prog) (e := Extern.MathFloatBits.float64frombits) Yba.func18 (by kernel_rfl) (by kernel_rfl) (by kernel_rfl) (by kernel_rfl)]
  rfl

set_option maxRecDepth 100000 in
set_option maxHeartbeats 400000 in
theorem abs_any (x : Nat) (w : World) : Calls Yba.prog 7 #[.float .f64 x] w fun e w' => e = .returned (.float .f64 (absV x)) ∧ w' = w := by
  have h1 := run_bits
  have h2 := run_frombits
  go_enter Yba.func7, Yba.ntmps7
  go_wp2
  go_ret
  exact ⟨rfl, rfl⟩

set_option maxRecDepth 100000 in
set_option maxHeartbeats 400000 in
theorem feq_any (a b : Nat) (w : World) (h : Sim a b) : Calls Yba.prog 8 #[.float .f64 a, .float .f64 b] w fun e w' => e = .returned (.bool true) ∧ w' = w := by
  by_cases hn : IsNaN a
  · have hb : IsNaN b := by
      rcases h with rfl | h
      · exact hn
      · exact h.2
    have o1 : FloatKind.f64.format.order a b = none := order_nan hn b
    have o2 : FloatKind.f64.format.order a a = none := order_nan hn a
    have o3 : FloatKind.f64.format.order b b = none := order_nan hb b
    clear h hn hb
    go_enter Yba.func8, Yba.ntmps8
    go_wp2
    go_ret
    exact ⟨rfl, rfl⟩
  · obtain rfl : a = b := by
      rcases h with h | h
      · exact h
      · exact (hn h.1).elim
    have o1 : FloatKind.f64.format.order a a = some .eq := order_self hn
    clear h hn
    go_enter Yba.func8, Yba.ntmps8
    go_wp2
    go_ret
    exact ⟨rfl, rfl⟩
end Go.Proofs.Ybulkacia.Ex
