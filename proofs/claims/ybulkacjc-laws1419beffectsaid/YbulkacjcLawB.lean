import Derived.Test.YbulkacjcMem
import Derived.Deep.DeepCutAuto
import Derived.Lib.Builder
namespace Go.Proofs.Ybulkacjc.Eff
open Go.RowKit

set_option maxRecDepth 100000 in
set_option maxHeartbeats 4000000 in
theorem law (a0 : Option Addr) (n cap0 : Nat) (zo : Nat → Int) (a1 : Option Addr) (n1 cap1 : Nat) (zm : Nat → Int) (sel id rest : Int) (a5 : Option Addr) (n5 cap5 : Nat) (zl : Nat → Int) (w : World)
    (h0 : n ≤ 1024) (hp0 : 0 < n) (h1 : n1 ≤ 1024) (h5 : n5 ≤ 1024)
    (r0 : Row .u8 w a0 n zo) (b0 : ∀ j, 0 ≤ zo j ∧ zo j ≤ 255) (r1 : Row .i64 w a1 n1 zm) (r5 : Row .i64 w a5 n5 zl) (hs : 0 ≤ sel) (hs' : sel ≤ 18446744073709551615) :
    Calls Yba.prog 3 #[.slice a0 n cap0, .slice a1 n1 cap1, .int .u64 sel, .int .i64 id, .int .i64 rest, .slice a5 n5 cap5] w fun e w' => e = .returned (.bool true) ∧ Below w.heap.size w w' := by
  obtain ⟨B0, o0, rfl, hB0, hc0⟩ := r0 hp0
  have H0 : Hid (∀ j, j < n → w.cell? ⟨B0, o0 + j, none⟩ = some (.int .u8 (zo j))) := hc0
  have R1 : Hid (Row .i64 w a1 n1 zm) := r1
  have R5 : Hid (Row .i64 w a5 n5 zl) := r5
  have Bo : Hid (∀ j, 0 ≤ zo j ∧ zo j ≤ 255) := b0
  have HS : Hid (0 ≤ sel ∧ sel ≤ 18446744073709551615) := ⟨hs, hs'⟩
  have HB0 : Hid (B0 < w.heap.size) := hB0
  clear hc0 r0 r1 r5 b0 hs hs' hB0
  have hmk := run_make_wide 25 33 _ 9 72 Yba.underlying25 info33 .i64 .i64 n (by omega) (by omega)
  have hne : ((n : Int) == 0) = false := by simp; omega
  have hd0 : decide ((1024 : Int) < n) = false := by simp; omega
  have hd1 : decide ((1024 : Int) < n1) = false := by simp; omega
  have hd5 : decide ((1024 : Int) < n5) = false := by simp; omega
  go_enter Yba.func3, Yba.ntmps3
  go_wp2
  clear hmk
  go_loopg [14] n (fun g i wr => ∃ k : Nat, g + k = n ∧ i = .int .i64 (k : Int) ∧ wr.rowIs w.heap.size 33 (n * 9) (stepsAt zo (mtOf n1 zm) k) ∧ Below w.heap.size w wr)
  case atStart => exact ⟨0, rfl, rfl, made_steps w zo (mtOf n1 zm) n, (Below.refl _ _).alloc (Nat.le_refl _) _⟩
  case round =>
    obtain ⟨k, hg, rfl, hrow, hbel⟩ := hrel
    by_cases hlt : k < n
    · have hc : wr.cell? ⟨B0, o0 + k, none⟩ = some (.int .u8 (zo k)) := by rw [hbel.cell (p := ⟨B0, o0 + k, none⟩) HB0.out]; exact H0.out k hlt
      have c0 : wr.cell? ⟨w.heap.size, k * 9, none⟩ = some _ := hrow.cell (by omega)
      have c1 : wr.cell? ⟨w.heap.size, k * 9 + 1, none⟩ = some _ := hrow.cell (by omega)
      have c2 : wr.cell? ⟨w.heap.size, k * 9 + 2, none⟩ = some _ := hrow.cell (by omega)
      have c3 : wr.cell? ⟨w.heap.size, k * 9 + 3, none⟩ = some _ := hrow.cell (by omega)
      have c4 : wr.cell? ⟨w.heap.size, k * 9 + 4, none⟩ = some _ := hrow.cell (by omega)
      have c5 : wr.cell? ⟨w.heap.size, k * 9 + 5, none⟩ = some _ := hrow.cell (by omega)
      have c6 : wr.cell? ⟨w.heap.size, k * 9 + 6, none⟩ = some _ := hrow.cell (by omega)
      have c7 : wr.cell? ⟨w.heap.size, k * 9 + 7, none⟩ = some _ := hrow.cell (by omega)
      have c8 : wr.cell? ⟨w.heap.size, k * 9 + 8, none⟩ = some _ := hrow.cell (by omega)
      have hfr := hrow.frozen
      obtain ⟨hz0, hz1⟩ := Bo.out k
      have HW : Hid (wr.rowIs w.heap.size 33 (n * 9) (stepsAt zo (mtOf n1 zm) k)) := hrow
      have HBel : Hid (Below w.heap.size w wr) := hbel
      clear hrow hbel
      by_cases hm : k < n1
      · have HM : Hid (mtOf n1 zm k = zm k) := if_pos hm
        obtain ⟨B1, o1, rfl, hB1, hc1'⟩ := R1.out (by omega)
        have hcm : wr.cell? ⟨B1, o1 + k, none⟩ = some (.int .i64 (zm k)) := by rw [HBel.out.cell (p := ⟨B1, o1 + k, none⟩) hB1]; exact hc1' k hm
        clear hc1' hB1
        go_wp2_with (go_at_call 4; refine (op_any _ _ hz0 hz1).mono ?_; rintro e w' ⟨rfl, rfl⟩)
        go_roundg (gk - 1)
        case measure => omega
        case rel =>
          refine ⟨k + 1, by omega, by go_num, ?_, below_nine HBel.out w.heap.size (k * 9) (Nat.le_refl _) _ _ _ _ _ _ _ _ _⟩
          have hst := store_step wr w.heap.size n k zo (mtOf n1 zm) HW.out
          simp only [stepVal, HM.out] at hst
          exact hst
      · have HM : Hid (mtOf n1 zm k = 0) := if_neg hm
        go_wp2_with (go_at_call 4; refine (op_any _ _ hz0 hz1).mono ?_; rintro e w' ⟨rfl, rfl⟩)
        go_roundg (gk - 1)
        case measure => omega
        case rel =>
          refine ⟨k + 1, by omega, by go_num, ?_, below_nine HBel.out w.heap.size (k * 9) (Nat.le_refl _) _ _ _ _ _ _ _ _ _⟩
          have hst := store_step wr w.heap.size n k zo (mtOf n1 zm) HW.out
          simp only [stepVal, HM.out] at hst
          exact hst
    · obtain rfl : k = n := by omega
      obtain ⟨wrF, hwrF⟩ : ∃ x, x = wr := ⟨_, rfl⟩
      subst hwrF
      have HW : Hid (wrF.rowIs w.heap.size 33 (k * 9) (stepsAt zo (mtOf n1 zm) k)) := hrow
      have HBel : Hid (Below w.heap.size w wrF) := hbel
      clear hrow hbel
      have hq23 := fun (wx : World) (a : Option Addr) (n c n' c' : Nat) => run_neq_slice_nil_any wx 23 3 a n c n' c' Yba.underlying23
      go_upto_if 76 with fail
      go_cut [17] (fun lc wc => ∃ a c, lc = .slice a n5 c ∧ Own wc (wrF.heap.size + 1) a n5 zl ∧ Below (wrF.heap.size + 1) (wrF.alloc (funcObj w.heap.size k)) wc)
      case first =>
        cases a5 with
        | none =>
          have hz : n5 = 0 := by
            rcases Nat.eq_zero_or_pos n5 with h | h
            · exact h
            · obtain ⟨_, _, hx, _⟩ := R5.out h
              cases hx
          subst hz
          go_wp2
          go_meet
          exact ⟨none, 0, rfl, fun h => absurd h (by omega), Below.refl _ _⟩
        | some A5 =>
          have hmk5 := run_make_row' (P := Yba.prog) 23 3 _ 8 Yba.underlying23 info3 rfl .i64 .i64 n5 (by omega) (by omega)
          by_cases hz : n5 = 0
          · have hcp := fun (wx : World) (ty : TypeId) (d a : Option Addr) (dc sc : Nat) => run_copy_none (P := Yba.prog) wx 23 23 ty 3 d a n5 dc n5 sc Yba.underlying23 (by kernel_rfl) (by simp [hz])
            have HZ : Hid (n5 = 0) := hz
            clear hz
            go_wp2
            go_meet
            exact ⟨_, _, rfl, fun h => absurd h (by have := HZ.out; omega), (Below.refl _ _).alloc (by simp) _⟩
          · obtain ⟨B5, o5, e5, hB5, hc5⟩ := R5.out (by omega)
            cases e5
            obtain ⟨w3, hcp, hr3, hb3, hs3⟩ := copy_left (wrF.alloc (funcObj w.heap.size k)) ⟨B5, o5, none⟩ n5 cap5 zl
              (fun j hj => by
                have hx : ((wrF.alloc (funcObj w.heap.size k)).cell? (Addr.add ⟨B5, o5, none⟩ j)) = w.cell? ⟨B5, o5 + j, none⟩ := by
                  have hadd : Addr.add ⟨B5, o5, none⟩ j = ⟨B5, o5 + j, none⟩ := by
                    unfold Addr.add
                    split
                    · rename_i hj0; subst hj0; rfl
                    · rfl
                  rw [hadd]
                  exact (HBel.out.alloc HBel.out.size _).cell (p := ⟨B5, o5 + j, none⟩) hB5
                rw [hx]; exact hc5 j hj)
              (by have := HBel.out.size; simp; omega)
            have hcp' := hcp
            simp at hcp'
            go_wp2
            go_meet
            exact ⟨_, n5, rfl, fun _ => ⟨_, rfl, Nat.le_refl _, by simpa using hr3⟩, by simpa using hb3⟩
      case rest =>
        obtain ⟨a, c, rfl, hown, hbc⟩ := hcut
        obtain ⟨wcG, hwcG⟩ : ∃ x, x = wc := ⟨_, rfl⟩
        subst hwcG
        have hq0 : 0 ≤ sel % (k : Int) := Int.emod_nonneg _ (by omega)
        have hq1 : sel % (k : Int) < k := Int.emod_lt_of_pos _ (by omega)
        obtain ⟨q, hq⟩ : ∃ q : Nat, sel.tmod (k : Int) = q := ⟨(sel % (k : Int)).toNat, by rw [Int.tmod_eq_emod_of_nonneg HS.out.1]; omega⟩
        have hqk : q < k := by rw [Int.tmod_eq_emod_of_nonneg HS.out.1] at hq; omega
        clear hq0 hq1
        have hmid := fun pc => mid_start (c := c) id rest pc HW.out HBel.out hown hbc
        have HMid : Hid (∀ pc, Mid w k zo (mtOf n1 zm) wrF.heap.size wcG.heap.size id rest pc a n5 c zl (wcG.alloc (gObj id rest wrF.heap.size pc a n5 c))) := hmid
        clear hmid hown hbc HW HBel
        go_upto_region 20 with fail
        clear hq
        go_cut [] (fun wd => Mid w k zo (mtOf n1 zm) wrF.heap.size wcG.heap.size id rest (pcOf zo (mtOf n1 zm) q) a n5 c zl wd)
        case first =>
          have hm := HMid.out ((q : Int) + 1)
          have hg1 := cellOf (i := 1) hm.g rfl
          have hg2 := cellOf (i := 2) hm.g rfl
          have hf2 := cellOf (i := 2) hm.func rfl
          have hs0 := hm.steps.cell (i := q * 9) (by omega)
          have hs8 := hm.steps.cell (i := q * 9 + 8) (by omega)
          rw [stepsAt_in _ _ _ q 8 hqk (by omega)] at hs8
          have hs0' := stepsAt_in zo (mtOf n1 zm) k q 0 hqk (by omega)
          rw [Nat.add_zero] at hs0'
          rw [hs0'] at hs0
          have hfg := frozenOf 2 hm.g
          clear hm hs0'
          by_cases ho : opv (zo q) = 8
          · have HP : Hid (pcOf zo (mtOf n1 zm) q = wrap64 (mtOf n1 zm q + 1)) := if_pos ho
            rw [show stepVal zo (mtOf n1 zm) q 0 = .int .u8 8 by simp [stepVal, ho]] at hs0
            have HC : Hid (Calls Yba.prog 5 _ _ _) := nothing_range wcG.heap.size wrF.heap.size w.heap.size k q _ _ hg1 hg2 hf2 hqk h0 hs0 hs8 hfg
            clear hg1 hg2 hf2 hs0 hs8 hfg
            go_wp2_with fail
            refine HC.out.mono ?_
            rintro e wx ⟨rfl, rfl⟩
            go_wp2
            go_meet
            rw [HP.out]
            exact (HMid.out _).same
          · have HP : Hid (pcOf zo (mtOf n1 zm) q = (q : Int) + 1) := if_neg ho
            have HC : Hid (Calls Yba.prog 5 _ _ _) := nothing_other wcG.heap.size wrF.heap.size w.heap.size k q _ _ hg1 hg2 hf2 hqk h0 hs0 (by simpa using ho)
            clear hg1 hg2 hf2 hs0 hs8 hfg
            go_wp2_with fail
            refine HC.out.mono ?_
            rintro e wx ⟨rfl, rfl⟩
            go_wp2
            go_meet
            rw [HP.out]
            exact (HMid.out _).same
        case rest =>
          obtain ⟨hz0, hz1⟩ := Bo.out q
          have hc : wc.cell? ⟨B0, o0 + q, none⟩ = some (.int .u8 (zo q)) := by rw [hcut.below.cell (p := ⟨B0, o0 + q, none⟩) HB0.out]; exact H0.out q hqk
          have HM : Hid (Mid w k zo (mtOf n1 zm) wrF.heap.size _ id rest (pcOf zo (mtOf n1 zm) q) a n5 c zl _) := hcut
          clear hcut
          go_upto_if 107 with (go_at_call 4; refine (op_any _ _ hz0 hz1).mono ?_; rintro e w' ⟨rfl, rfl⟩)
          go_cut [20] (fun want wd => want = .int .i64 (pcOf zo (mtOf n1 zm) q) ∧ wc = wd)
          case first =>
            by_cases ho : opv (zo q) = 8
            · have HP : Hid (pcOf zo (mtOf n1 zm) q = wrap64 (mtOf n1 zm q + 1)) := if_pos ho
              by_cases hm : q < n1
              · have HMt : Hid (mtOf n1 zm q = zm q) := if_pos hm
                obtain ⟨B1, o1, rfl, hB1, hc1'⟩ := R1.out (by omega)
                have hcm : wc.cell? ⟨B1, o1 + q, none⟩ = some (.int .i64 (zm q)) := by rw [HM.out.below.cell (p := ⟨B1, o1 + q, none⟩) hB1]; exact hc1' q hm
                clear hc1' hB1
                go_wp2
                go_meet
                exact ⟨by rw [HP.out, HMt.out], rfl⟩
              · have HMt : Hid (mtOf n1 zm q = 0) := if_neg hm
                go_wp2
                go_meet
                exact ⟨by rw [HP.out, HMt.out]; simp [wrap64], rfl⟩
            · have HP : Hid (pcOf zo (mtOf n1 zm) q = (q : Int) + 1) := if_neg ho
              have ho' : (opv (zo q) == 8) = false := by simpa using ho
              go_wp2
              go_meet
              exact ⟨by rw [HP.out], rfl⟩
          case rest =>
            obtain ⟨rfl, rfl⟩ := hcut
            clear hc hz0 hz1
            obtain ⟨P', hP'⟩ : ∃ P', P' = pcOf zo (mtOf n1 zm) q := ⟨_, rfl⟩
            rw [← hP'] at HM ⊢
            clear hP'
            have hg0 := cellOf (i := 0) HM.out.g rfl
            have hg1 := cellOf (i := 1) HM.out.g rfl
            have hg2 := cellOf (i := 2) HM.out.g rfl
            have hg3 := cellOf (i := 3) HM.out.g rfl
            have hg4 := cellOf (i := 4) HM.out.g rfl
            have hf2 := cellOf (i := 2) HM.out.func rfl
            obtain ⟨j35, hj35⟩ : ∃ j, Yba.prog.info? 35 = some j := Option.isSome_iff_exists.1 (by kernel_rfl)
            have hpp := fun (wx : World) (ad : Addr) => Lib.run_neq_ptr_same (P := Yba.prog) (w := wx) ad Yba.underlying29 hj35
            go_wp2
            clear hg0 hg1 hg2 hg3 hg4 hf2 hpp
            go_loopg [23] n5 (fun g i wx => ∃ j : Nat, g + j = n5 ∧ i = .int .i64 (j : Int) ∧ Mid w k zo (mtOf n1 zm) wrF.heap.size wcG.heap.size id rest P' a n5 c zl wx)
            case atStart => exact ⟨0, rfl, rfl, HM.out⟩
            case round =>
              clear HM
              obtain ⟨j, hgj, rfl, hM⟩ := hrel
              have HM : Hid (Mid w k zo (mtOf n1 zm) wrF.heap.size wcG.heap.size id rest P' a n5 c zl wr) := hM
              clear hM
              by_cases hlt5 : j < n5
              · have hg4 := cellOf (i := 4) HM.out.g rfl
                obtain ⟨C, rfl, _, hC⟩ := HM.out.own (by omega)
                have hcC := hC.cell hlt5
                clear hC
                obtain ⟨B5, o5, rfl, hB5, hc5⟩ := R5.out (by omega)
                have hc5' : wr.cell? ⟨B5, o5 + j, none⟩ = some (.int .i64 (zl j)) := by rw [HM.out.below.cell (p := ⟨B5, o5 + j, none⟩) hB5]; exact hc5 j hlt5
                clear hc5 hB5
                go_wp2
                go_region
                go_wp2
                go_roundg (gk - 1)
                case measure => omega
                case rel => exact ⟨j + 1, by omega, by go_num, HM.out.same⟩
              · have hf2 := cellOf (i := 2) HM.out.func rfl
                go_wp2
                clear hf2
                go_loopg [24] k (fun g i wx => ∃ t : Nat, g + t = k ∧ i = .int .i64 (t : Int) ∧ Mid w k zo (mtOf n1 zm) wrF.heap.size wcG.heap.size id rest P' a n5 c zl wx)
                case atStart => exact ⟨0, rfl, rfl, HM.out⟩
                case round =>
                  clear HM
                  obtain ⟨t, hgt, rfl, hM⟩ := hrel
                  have HM : Hid (Mid w k zo (mtOf n1 zm) wrF.heap.size wcG.heap.size id rest P' a n5 c zl wr) := hM
                  clear hM
                  by_cases hltt : t < k
                  · have hf2 := cellOf (i := 2) HM.out.func rfl
                    have hst : ∀ r, r < 9 → wr.cell? ⟨w.heap.size, t * 9 + r, none⟩ = some (stepVal zo (mtOf n1 zm) t r) := fun r hr => by
                      rw [← stepsAt_in zo (mtOf n1 zm) k t r hltt hr]
                      exact HM.out.steps.cell (by omega)
                    have c0 : wr.cell? ⟨w.heap.size, t * 9, none⟩ = some (.int .u8 (opv (zo t))) := hst 0 (by omega)
                    have c1 : wr.cell? ⟨w.heap.size, t * 9 + 1, none⟩ = some (.int .i64 ((t : Int) + 1)) := hst 1 (by omega)
                    have c2 : wr.cell? ⟨w.heap.size, t * 9 + 2, none⟩ = some (.int .i64 0) := hst 2 (by omega)
                    have c3 : wr.cell? ⟨w.heap.size, t * 9 + 3, none⟩ = some (.pointer none) := hst 3 (by omega)
                    have c4 : wr.cell? ⟨w.heap.size, t * 9 + 4, none⟩ = some (.pointer none) := hst 4 (by omega)
                    have c5 : wr.cell? ⟨w.heap.size, t * 9 + 5, none⟩ = some (.pointer none) := hst 5 (by omega)
                    have c6 : wr.cell? ⟨w.heap.size, t * 9 + 6, none⟩ = some (.int .i64 0) := hst 6 (by omega)
                    have c7 : wr.cell? ⟨w.heap.size, t * 9 + 7, none⟩ = some (.int .i64 0) := hst 7 (by omega)
                    have c8 : wr.cell? ⟨w.heap.size, t * 9 + 8, none⟩ = some (.int .i64 (mtOf n1 zm t)) := hst 8 (by omega)
                    clear hst
                    have hc : wr.cell? ⟨B0, o0 + t, none⟩ = some (.int .u8 (zo t)) := by rw [HM.out.below.cell (p := ⟨B0, o0 + t, none⟩) HB0.out]; exact H0.out t hltt
                    obtain ⟨hz0, hz1⟩ := Bo.out t
                    have HBB : Hid (B0 ≠ wr.heap.size) := by have h1 := HB0.out; have h2 := HM.out.below.size; show B0 ≠ _; omega
                    by_cases hm : t < n1
                    · rw [show mtOf n1 zm t = zm t from if_pos hm] at c8
                      obtain ⟨B1, o1, rfl, hB1, hc1'⟩ := R1.out (by omega)
                      have hcm : wr.cell? ⟨B1, o1 + t, none⟩ = some (.int .i64 (zm t)) := by rw [HM.out.below.cell (p := ⟨B1, o1 + t, none⟩) hB1]; exact hc1' t hm
                      clear hc1' hB1
                      go_upto_region 45 with fail
                      go_cut [26] (fun v wx => v = ptr wr.heap.size ∧ wx.cell? ⟨wr.heap.size, 0, none⟩ = some (.int .u8 (opv (zo t))) ∧ wx.cell? ⟨wr.heap.size, 1, none⟩ = some (.int .i64 ((t : Int) + 1)) ∧ wx.cell? ⟨wr.heap.size, 8, none⟩ = some (.int .i64 (zm t)) ∧
                        wx.cell? ⟨B0, o0 + t, none⟩ = some (.int .u8 (zo t)) ∧ Mid w k zo (mtOf n1 zm) wrF.heap.size wcG.heap.size id rest P' a n5 c zl wx)
                      case first =>
                        go_wp2
                        go_meet
                        refine ⟨rfl, cellOf (i := 0) (Deep.blk_alloc_new _ _) rfl, cellOf (i := 1) (Deep.blk_alloc_new _ _) rfl, cellOf (i := 8) (Deep.blk_alloc_new _ _) rfl, ?_, HM.out.alloc _⟩
                        rw [(HM.out.alloc _).below.cell (p := ⟨B0, o0 + t, none⟩) HB0.out]
                        exact H0.out t hltt
                      case rest =>
                        obtain ⟨rfl, d0, d1, d8, hcB, hM⟩ := hcut
                        clear c0 c1 c2 c3 c4 c5 c6 c7 c8 hc HM HBB hf2
                        have HM : Hid (Mid w k zo (mtOf n1 zm) wrF.heap.size wcG.heap.size id rest P' a n5 c zl wc) := hM
                        clear hM
                        go_upto_region 46 with fail
                        go_quiet (first | (go_at_call 4; exact Calls.quiet_of_same ((op_any _ _ hz0 hz1).mono fun _ _ h => ⟨h.1, h.2.symm⟩)))
                        go_wp2
                        go_roundg (gk - 1)
                        case measure => omega
                        case rel => exact ⟨t + 1, by omega, by go_num, HM.out.drewN _⟩
                    · rw [show mtOf n1 zm t = 0 from if_neg hm] at c8
                      go_upto_region 45 with fail
                      go_cut [26] (fun v wx => v = ptr wr.heap.size ∧ wx.cell? ⟨wr.heap.size, 0, none⟩ = some (.int .u8 (opv (zo t))) ∧ wx.cell? ⟨wr.heap.size, 1, none⟩ = some (.int .i64 ((t : Int) + 1)) ∧ wx.cell? ⟨wr.heap.size, 8, none⟩ = some (.int .i64 0) ∧
                        wx.cell? ⟨B0, o0 + t, none⟩ = some (.int .u8 (zo t)) ∧ Mid w k zo (mtOf n1 zm) wrF.heap.size wcG.heap.size id rest P' a n5 c zl wx)
                      case first =>
                        go_wp2
                        go_meet
                        refine ⟨rfl, cellOf (i := 0) (Deep.blk_alloc_new _ _) rfl, cellOf (i := 1) (Deep.blk_alloc_new _ _) rfl, cellOf (i := 8) (Deep.blk_alloc_new _ _) rfl, ?_, HM.out.alloc _⟩
                        rw [(HM.out.alloc _).below.cell (p := ⟨B0, o0 + t, none⟩) HB0.out]
                        exact H0.out t hltt
                      case rest =>
                        obtain ⟨rfl, d0, d1, d8, hcB, hM⟩ := hcut
                        clear c0 c1 c2 c3 c4 c5 c6 c7 c8 hc HM HBB hf2
                        have HM : Hid (Mid w k zo (mtOf n1 zm) wrF.heap.size wcG.heap.size id rest P' a n5 c zl wc) := hM
                        clear hM
                        go_upto_region 46 with fail
                        go_quiet (first | (go_at_call 4; exact Calls.quiet_of_same ((op_any _ _ hz0 hz1).mono fun _ _ h => ⟨h.1, h.2.symm⟩)))
                        go_wp2
                        go_roundg (gk - 1)
                        case measure => omega
                        case rel => exact ⟨t + 1, by omega, by go_num, HM.out.drewN _⟩
                  · go_wp2
                    go_ret
                    exact ⟨rfl, HM.out.below⟩
end Go.Proofs.Ybulkacjc.Eff
