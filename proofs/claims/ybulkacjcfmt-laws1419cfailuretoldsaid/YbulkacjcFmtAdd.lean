import Derived.Test.YbulkacjcFmtFmt
import Derived.WalkKit
import Derived.WalkSpells
import Derived.Below
import Derived.Outline
import Derived.BigRegion
import Derived.Deep.QuietTactic
import Derived.BigQuiet
import Derived.Deep.RegionHeld3
namespace Go.Proofs.YbulkacjcFmt.Add
open Go.RowKit Go.Extern.Stop Go.Stop Go.Extern
attribute [local go_sem] Ybaf.call8 Ybaf.guard Ybaf.fmt0 Ybaf.fmt0r Ybaf.op3_100 Ybaf.op2_100 Ybaf.op9_115

abbrev ptr (b : Nat) : Value := .pointer (some ⟨b, 0, none⟩)

abbrev stepObj (line : Int) : Obj := .cells #[.int .u8 0, .int .i64 line, .int .i64 0, .pointer none, .pointer none, .pointer none, .int .i64 0, .int .i64 0, .int .i64 0] 62
abbrev funcObj (fname : ByteArray) (S : Nat) : Obj := .cells #[.string fname, .int .i64 0, .slice (some ⟨S, 0, none⟩) 1 1] 65
abbrev gObj (gid : Int) (F : Nat) : Obj := .cells #[.int .i64 gid, ptr F, .int .i64 1, .int .i64 0, .slice none 0 0] 67
abbrev failObj (line gid : Int) (fname what : ByteArray) : Obj := .cells #[.int .i64 line, .int .i64 gid, .string fname, .string what] 56

set_option maxRecDepth 100000 in
set_option maxHeartbeats 400000 in
theorem cg_any (line gid : Int) (fname : ByteArray) (w : World) :
    Calls Ybaf.prog 5 #[.int .i64 line, .int .i64 gid, .string fname] w fun e w' => e = .returned (ptr (w.heap.size + 1 + 1)) ∧
      ((w.alloc (stepObj line)).alloc (funcObj fname w.heap.size)).alloc (gObj gid (w.heap.size + 1)) = w' := by
  go_enter Ybaf.func5, Ybaf.ntmps5
  go_wp2
  go_ret
  exact ⟨rfl, rfl⟩

set_option maxRecDepth 100000 in
set_option maxHeartbeats 400000 in
theorem current_any (G F S : Nat) (w : World) (c1 : w.cell? ⟨G, 1, none⟩ = some (ptr F)) (c2 : w.cell? ⟨G, 2, none⟩ = some (.int .i64 1)) (d2 : w.cell? ⟨F, 2, none⟩ = some (.slice (some ⟨S, 0, none⟩) 1 1)) :
    Calls Ybaf.prog 9 #[ptr G] w fun e w' => e = .returned (ptr S) ∧ w.drew = w' := by
  go_enter Ybaf.func9, Ybaf.ntmps9
  go_wp2
  go_region
  go_wp2
  go_ret
  exact ⟨rfl, rfl⟩

set_option maxRecDepth 100000 in
set_option maxHeartbeats 1000000 in
theorem fail_any (G F S : Nat) (line gid : Int) (fname what : ByteArray) (w : World) (c0 : w.cell? ⟨G, 0, none⟩ = some (.int .i64 gid)) (c1 : w.cell? ⟨G, 1, none⟩ = some (ptr F)) (c2 : w.cell? ⟨G, 2, none⟩ = some (.int .i64 1))
    (d0 : w.cell? ⟨F, 0, none⟩ = some (.string fname)) (d2 : w.cell? ⟨F, 2, none⟩ = some (.slice (some ⟨S, 0, none⟩) 1 1)) (s1 : w.cell? ⟨S, 1, none⟩ = some (.int .i64 line)) :
    Calls Ybaf.prog 7 #[ptr G, .string what] w fun e w' => e = .returned (.iface 53 (ptr w.heap.size)) ∧ ∃ n, (w.alloc (failObj line gid fname what)).drewN n = w' := by
  go_enter Ybaf.func7, Ybaf.ntmps7
  go_wp2
  go_region_held3 (fun w' => w'.cell? ⟨G, 0, none⟩ = some (.int .i64 gid) ∧ w'.cell? ⟨G, 1, none⟩ = some (ptr F) ∧ w'.cell? ⟨G, 2, none⟩ = some (.int .i64 1) ∧ w'.cell? ⟨F, 0, none⟩ = some (.string fname) ∧ w'.cell? ⟨F, 2, none⟩ = some (.slice (some ⟨S, 0, none⟩) 1 1) ∧ w'.cell? ⟨S, 1, none⟩ = some (.int .i64 line)) (go_keep)
    (first | (go_at_call 9; refine (current_any G F S _ ?_ ?_ ?_).mono ?_; (exact c1); (exact c2); (exact d2); rintro e w' ⟨rfl, rfl⟩))
  go_wp2
  go_ret
  exact ⟨rfl, 2, rfl⟩

set_option maxRecDepth 100000 in
set_option maxHeartbeats 1000000 in
theorem add_ok (Z G W : Nat) (count n : Int) (w : World) (hn : 0 ≤ n) (hn' : n ≤ 9223372036854775807) (hc : -9223372036854775808 ≤ count) (hno : ¬ 9223372036854775807 - n < count)
    (c1 : w.cell? ⟨W, 1, none⟩ = some (.int .i64 count)) (f1 : w.frozen? ⟨W, 1, none⟩ = false) :
    Calls Ybaf.prog 6 #[ptr Z, ptr G, ptr W, .int .i64 n] w fun e w' => e = .returned .nilIface ∧ w.setCell ⟨W, 1, none⟩ (.int .i64 (count + n)) = w' := by
  go_enter Ybaf.func6, Ybaf.ntmps6
  go_wp2
  go_ret
  exact ⟨rfl, rfl⟩

set_option maxRecDepth 100000 in
set_option maxHeartbeats 1000000 in
theorem add_over (F' : Interp) (Z G F S W N : Nat) (line gid : Int) (fname gname : ByteArray) (count n : Int) (w : World) (hF : F'.answers w.tape) (hn : 0 ≤ n) (hn' : n ≤ 9223372036854775807) (hno : 9223372036854775807 - n < count)
    (w0 : w.cell? ⟨W, 0, none⟩ = some (ptr N)) (w1 : w.cell? ⟨W, 1, none⟩ = some (.int .i64 count)) (n0 : w.cell? ⟨N, 0, none⟩ = some (.string gname))
    (c0 : w.cell? ⟨G, 0, none⟩ = some (.int .i64 gid)) (c1 : w.cell? ⟨G, 1, none⟩ = some (ptr F)) (c2 : w.cell? ⟨G, 2, none⟩ = some (.int .i64 1))
    (d0 : w.cell? ⟨F, 0, none⟩ = some (.string fname)) (d2 : w.cell? ⟨F, 2, none⟩ = some (.slice (some ⟨S, 0, none⟩) 1 1)) (s1 : w.cell? ⟨S, 1, none⟩ = some (.int .i64 line)) :
    Calls Ybaf.prog 6 #[ptr Z, ptr G, ptr W, .int .i64 n] w fun e w' => e = .returned (.iface 53 (ptr (w.heap.size + 1))) ∧ ∃ ob what k, ((w.alloc ob).alloc (failObj line gid fname what)).drewN k = w' := by
  have hF' := answers_open hF
  have HX : Hid (∀ (b i : Nat) (v : Value) (ob : Obj), w.cell? ⟨b, i, none⟩ = some v → (w.alloc ob).cell? ⟨b, i, none⟩ = some v) := fun b i v ob h => by
    rw [← h]
    exact World.cell?_of_block (w := w) (Below.heap_alloc _ _ _ (World.block_lt_of_cell? _ _ h))
  go_enter Ybaf.func6, Ybaf.ntmps6
  go_wp2_with fail
  refine (fail_any G F S line gid fname _ _ ?_ ?_ ?_ ?_ ?_ ?_).mono ?_
  · exact HX.out _ _ _ _ c0
  · exact HX.out _ _ _ _ c1
  · exact HX.out _ _ _ _ c2
  · exact HX.out _ _ _ _ d0
  · exact HX.out _ _ _ _ d2
  · exact HX.out _ _ _ _ s1
  rintro e w' ⟨rfl, k, rfl⟩
  go_wp2
  go_ret
  exact ⟨rfl, _, _, 1 + k, rfl⟩
end Go.Proofs.YbulkacjcFmt.Add
