import Derived.Test.YbulkacjcRows
import Derived.WalkKit
import Derived.WalkSpells
import Derived.Below
import Derived.Outline
import Derived.BigRegion
import Derived.Deep.QuietTactic
import Derived.BigQuiet
import Derived.Deep.LoopGhost
namespace Go.Proofs.Ybulkacjc.Eff
open Go.RowKit

abbrev ptr (b : Nat) : Value := .pointer (some ⟨b, 0, none⟩)

/-- What zzs1419bop makes of a byte. -/
def opv (b : Int) : Int := if b % 2 = 0 then 8 else b / 2 % 15

set_option maxRecDepth 100000 in
set_option maxHeartbeats 400000 in
theorem op_any (b : Int) (w : World) (h0 : 0 ≤ b) (h1 : b ≤ 255) :
    Calls Yba.prog 4 #[.int .u8 b] w fun e w' => e = .returned (.int .u8 (opv b)) ∧ w = w' := by
  by_cases hb : b % 2 = 0
  · have hbb : (b % 2 == 0) = true := by simp [hb]
    have HO : Hid (opv b = 8) := if_pos hb
    clear hb
    go_enter Yba.func4, Yba.ntmps4
    go_wp2
    go_ret
    exact ⟨by rw [HO.out]; rfl, rfl⟩
  · have hbb : (b % 2 == 0) = false := by simp [hb]
    have HO : Hid (opv b = b / 2 % 15) := if_neg hb
    clear hb
    go_enter Yba.func4, Yba.ntmps4
    go_wp2
    go_ret
    exact ⟨by rw [HO.out]; rfl, rfl⟩

set_option maxRecDepth 100000 in
set_option maxHeartbeats 400000 in
theorem current_any (G F S n q : Nat) (w : World) (c1 : w.cell? ⟨G, 1, none⟩ = some (ptr F)) (c2 : w.cell? ⟨G, 2, none⟩ = some (.int .i64 ((q : Int) + 1))) (d2 : w.cell? ⟨F, 2, none⟩ = some (.slice (some ⟨S, 0, none⟩) n n)) (hq : q < n) (hn : n ≤ 1024) :
    Calls Yba.prog 6 #[ptr G] w fun e w' => e = .returned (.pointer (some ⟨S, q * 9, none⟩)) ∧ w.drew = w' := by
  go_enter Yba.func6, Yba.ntmps6
  go_wp2
  go_region
  go_wp2
  go_ret
  exact ⟨rfl, rfl⟩

set_option maxRecDepth 100000 in
set_option maxHeartbeats 400000 in
theorem nothing_range (G F S n q : Nat) (m : Int) (w : World) (c1 : w.cell? ⟨G, 1, none⟩ = some (ptr F)) (c2 : w.cell? ⟨G, 2, none⟩ = some (.int .i64 ((q : Int) + 1))) (d2 : w.cell? ⟨F, 2, none⟩ = some (.slice (some ⟨S, 0, none⟩) n n)) (hq : q < n) (hn : n ≤ 1024)
    (s0 : w.cell? ⟨S, q * 9, none⟩ = some (.int .u8 8)) (s8 : w.cell? ⟨S, q * 9 + 8, none⟩ = some (.int .i64 m)) (f2 : w.frozen? ⟨G, 2, none⟩ = false) :
    Calls Yba.prog 5 #[ptr G] w fun e w' => e = .returned (.tuple #[]) ∧ (w.setCell ⟨G, 2, none⟩ (.int .i64 (wrap64 (m + 1)))).drew = w' := by
  go_enter Yba.func5, Yba.ntmps5
  go_wp2_with (go_at_call 6; refine (current_any G F S n q _ c1 c2 d2 hq hn).mono ?_; rintro e w' ⟨rfl, rfl⟩)
  go_end0
  exact ⟨rfl, rfl⟩

set_option maxRecDepth 100000 in
set_option maxHeartbeats 400000 in
theorem nothing_other (G F S n q : Nat) (o : Int) (w : World) (c1 : w.cell? ⟨G, 1, none⟩ = some (ptr F)) (c2 : w.cell? ⟨G, 2, none⟩ = some (.int .i64 ((q : Int) + 1))) (d2 : w.cell? ⟨F, 2, none⟩ = some (.slice (some ⟨S, 0, none⟩) n n)) (hq : q < n) (hn : n ≤ 1024)
    (s0 : w.cell? ⟨S, q * 9, none⟩ = some (.int .u8 o)) (ho : (o == 8) = false) :
    Calls Yba.prog 5 #[ptr G] w fun e w' => e = .returned (.tuple #[]) ∧ w.drew = w' := by
  go_enter Yba.func5, Yba.ntmps5
  go_wp2_with (go_at_call 6; refine (current_any G F S n q _ c1 c2 d2 hq hn).mono ?_; rintro e w' ⟨rfl, rfl⟩)
  go_end0
  exact ⟨rfl, rfl⟩
end Go.Proofs.Ybulkacjc.Eff
