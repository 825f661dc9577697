import Derived.Test.YbulkachmHolder
import Derived.OpenShut
namespace Go.Proofs.Ybulkachm.Hold
open Go.RowKit

theorem Held.alloc {w : World} (o : Obj) : ∀ (n : Nat) (ctx want : Value), Held w n ctx want → Held (w.alloc o) n ctx want
  | 0, ctx, want, h => by unfold Held at h ⊢; exact h
  | n + 1, ctx, want, h => by
    unfold Held at h ⊢
    obtain ⟨b, c, hb, h1, h2, h3⟩ := h
    exact ⟨b, c, by simp; omega, h1, by rw [World.cell?_alloc_lt w o _ hb]; exact h2, Held.alloc o n c want h3⟩

theorem Held.ctx_form {w : World} : ∀ (n : Nat) (ctx want : Value), Held w n ctx want → ctx = .nilIface ∨ ∃ t b, ctx = .iface t (ptr b)
  | 0, ctx, want, h => by
    unfold Held at h
    rcases h with ⟨h, _⟩ | ⟨b, h, _⟩ | ⟨b, h, _⟩ | ⟨b, h, _⟩
    · exact .inl h
    all_goals exact .inr ⟨_, b, h⟩
  | n + 1, ctx, want, h => by
    unfold Held at h
    obtain ⟨b, c, hb, h1, h2, h3⟩ := h
    exact .inr ⟨_, b, h1⟩

theorem Held.want_form {w : World} : ∀ (n : Nat) (ctx want : Value), Held w n ctx want → want = .pointer none ∨ ∃ b, want = ptr b
  | 0, ctx, want, h => by
    unfold Held at h
    rcases h with ⟨_, h⟩ | ⟨b, _, h⟩ | ⟨b, _, h⟩ | ⟨b, _, h⟩
    · exact .inl h
    · exact .inr ⟨b, h⟩
    · exact .inr ⟨b, h⟩
    · exact .inl h
  | n + 1, ctx, want, h => by
    unfold Held at h
    obtain ⟨b, c, hb, h1, h2, h3⟩ := h
    exact Held.want_form n c want h3

/-- The slice's elements, as the walk reads them. -/
def Row (w : World) (a : Option Addr) (len : Nat) (z : Nat → Int) : Prop :=
  0 < len → ∃ b off, a = some ⟨b, off, none⟩ ∧ b < w.heap.size ∧ ∀ j, j < len → w.cell? ⟨b, off + j, none⟩ = some (.int .u8 (z j)) ∧ 0 ≤ z j ∧ z j ≤ 255

set_option maxRecDepth 100000 in
set_option maxHeartbeats 400000 in
theorem build (a : Option Addr) (len cap : Nat) (z : Nat → Int) (w : World) (hl : len ≤ 1024) (hrow : Row w a len z) :
    Calls Yba.prog 8 #[.slice a len cap] w fun e w' => ∃ ctx want n, e = .returned (.tuple #[ctx, want]) ∧ Held w' n ctx want ∧ Below w.heap.size w w' := by
  have HR : Hid (Row w a len z) := hrow
  clear hrow
  go_enter Yba.func8, Yba.ntmps8
  go_wp2
  go_loopg [4, 5, 12] len (fun g ctx want i wr => ∃ k n : Nat, g + k = len ∧ i = .int .i64 k ∧ Held wr n ctx want ∧ Below w.heap.size w wr)
  case atStart => exact ⟨0, 0, rfl, rfl, .inl ⟨rfl, rfl⟩, Below.refl _ _⟩
  case round =>
    obtain ⟨k, n, hg, rfl, hh, hbel⟩ := hrel
    by_cases hlt : k < len
    · obtain ⟨b, off, rfl, hb, hcells⟩ := HR.out (by omega)
      obtain ⟨hc0, hz0, hz1⟩ := hcells k hlt
      have hc : wr.cell? ⟨b, off + k, none⟩ = some (.int .u8 (z k)) := by rw [hbel.cell (p := ⟨b, off + k, none⟩) hb]; exact hc0
      clear hcells hc0
      have hff := hh.ctx_form
      have HH : Hid (Held wr n _ _) := hh
      have HB : Hid (Below w.heap.size w wr) := hbel
      clear hh hbel
      rcases hff with rfl | ⟨t, b', rfl⟩
      all_goals
        go_wp2
        · go_roundg (gk - 1)
          case measure => omega
          case rel => exact ⟨k + 1, 0, by omega, by go_num, .inr (.inl ⟨_, rfl, rfl⟩), HB.out.alloc HB.out.size _⟩
        · go_roundg (gk - 1)
          case measure => omega
          case rel => exact ⟨k + 1, 0, by omega, by go_num, .inr (.inr (.inl ⟨_, rfl, rfl⟩)), HB.out.alloc HB.out.size _⟩
        · go_roundg (gk - 1)
          case measure => omega
          case rel => exact ⟨k + 1, 0, by omega, by go_num, .inr (.inr (.inr ⟨_, rfl, rfl⟩)), HB.out.alloc HB.out.size _⟩
        · go_roundg (gk - 1)
          case measure => omega
          case rel => exact ⟨k + 1, n + 1, by omega, by go_num, ⟨_, _, by simp, rfl, by simp [go_sem], HH.out.alloc _ _ _ _⟩, HB.out.alloc HB.out.size _⟩
    · go_wp2
      go_ret2
      exact ⟨_, _, n, rfl, hh, hbel⟩
end Go.Proofs.Ybulkachm.Hold
