import Derived.Test.YbulkacksQuiet
namespace Go.Proofs.Ybulkacks.Q
open Go.RowKit Go.PtrMap

theorem st_start (w : World) (a : Option Addr) (n cap : Nat) (so : Nat → Obj) :
    St w a n cap 0 0 0 so (((((w.alloc (boxObj a n cap)).alloc (.map #[] 0)).alloc (inObj (w.heap.size + 1))).alloc (.cells (madeCells #[.pointer none] n) 49)).alloc (listObj (w.heap.size + 1 + 1 + 1) n)) ∧
      (((((w.alloc (boxObj a n cap)).alloc (.map #[] 0)).alloc (inObj (w.heap.size + 1))).alloc (.cells (madeCells #[.pointer none] n) 49)).alloc (listObj (w.heap.size + 1 + 1 + 1) n)).heap.size = w.heap.size + 5 + 0 := by
  have s1 := Deep.nblk_alloc w (boxObj a n cap)
  have s2 := Deep.nblk_alloc (w.alloc (boxObj a n cap)) (.map #[] 0)
  have s3 := Deep.nblk_alloc ((w.alloc (boxObj a n cap)).alloc (.map #[] 0)) (inObj (w.heap.size + 1))
  have s4 := Deep.nblk_alloc (((w.alloc (boxObj a n cap)).alloc (.map #[] 0)).alloc (inObj (w.heap.size + 1))) (.cells (madeCells #[.pointer none] n) 49)
  have s5 := Deep.nblk_alloc ((((w.alloc (boxObj a n cap)).alloc (.map #[] 0)).alloc (inObj (w.heap.size + 1))).alloc (.cells (madeCells #[.pointer none] n) 49)) (listObj (w.heap.size + 1 + 1 + 1) n)
  have n1 := Deep.blk_alloc_new w (boxObj a n cap)
  have n2 := Deep.blk_alloc_new (w.alloc (boxObj a n cap)) (.map #[] 0)
  have n3 := Deep.blk_alloc_new ((w.alloc (boxObj a n cap)).alloc (.map #[] 0)) (inObj (w.heap.size + 1))
  have n4 := World.rowIs_made (((w.alloc (boxObj a n cap)).alloc (.map #[] 0)).alloc (inObj (w.heap.size + 1))) (.pointer none) n 49
  have n5 := Deep.blk_alloc_new ((((w.alloc (boxObj a n cap)).alloc (.map #[] 0)).alloc (inObj (w.heap.size + 1))).alloc (.cells (madeCells #[.pointer none] n) 49)) (listObj (w.heap.size + 1 + 1 + 1) n)
  rw [s1] at s2 n2
  rw [s2] at s3 n3
  rw [s3] at s4 n4
  rw [s4] at s5 n5
  refine ⟨⟨?_, ?_, ?_, ?_, n5, fun j hj => absurd hj (by omega), ?_⟩, by rw [s5]⟩
  · rw [Deep.blk_alloc_lt _ _ _ (by omega), Deep.blk_alloc_lt _ _ _ (by omega), Deep.blk_alloc_lt _ _ _ (by omega), Deep.blk_alloc_lt _ _ _ (by omega)]; exact n1
  · rw [Deep.blk_alloc_lt _ _ _ (by omega), Deep.blk_alloc_lt _ _ _ (by omega), Deep.blk_alloc_lt _ _ _ (by omega)]; exact n2
  · rw [Deep.blk_alloc_lt _ _ _ (by omega), Deep.blk_alloc_lt _ _ _ (by omega)]; exact n3
  · exact (n4.alloc _).congr fun i _ => by simp
  · exact (((((Below.refl _ w).alloc (Nat.le_refl _) _).alloc (by omega) _).alloc (by omega) _).alloc (by omega) _).alloc (by omega) _

theorem run_start {w : World} {a : Option Addr} {n cap : Nat} {last : Nat → Int} {wt : Nat → Bool} {wr : World} (h : St w a n cap n n n (soOf w.heap.size last wt) wr) (hs : wr.heap.size = w.heap.size + 5 + n) :
    Run w a n cap last wt (fun _ => false) (((wr.alloc (.cells (madeCells #[.int .i64 0] n) 3)).alloc (.cells #[.slice (some ⟨w.heap.size + 5 + n, 0, none⟩) n n] 65)).alloc (.cells #[.bool false] 4)) ∧
      (((wr.alloc (.cells (madeCells #[.int .i64 0] n) 3)).alloc (.cells #[.slice (some ⟨w.heap.size + 5 + n, 0, none⟩) n n] 65)).alloc (.cells #[.bool false] 4)).heap.size = w.heap.size + 5 + n + 3 := by
  have s1 := Deep.nblk_alloc wr (.cells (madeCells #[.int .i64 0] n) 3)
  have s2 := Deep.nblk_alloc (wr.alloc (.cells (madeCells #[.int .i64 0] n) 3)) (.cells #[.slice (some ⟨w.heap.size + 5 + n, 0, none⟩) n n] 65)
  have s3 := Deep.nblk_alloc ((wr.alloc (.cells (madeCells #[.int .i64 0] n) 3)).alloc (.cells #[.slice (some ⟨w.heap.size + 5 + n, 0, none⟩) n n] 65)) (.cells #[.bool false] 4)
  have n1 := World.rowIs_made wr (.int .i64 0) n 3
  have n2 := Deep.blk_alloc_new (wr.alloc (.cells (madeCells #[.int .i64 0] n) 3)) (.cells #[.slice (some ⟨w.heap.size + 5 + n, 0, none⟩) n n] 65)
  have n3 := Deep.blk_alloc_new ((wr.alloc (.cells (madeCells #[.int .i64 0] n) 3)).alloc (.cells #[.slice (some ⟨w.heap.size + 5 + n, 0, none⟩) n n] 65)) (.cells #[.bool false] 4)
  rw [hs] at s1 n1
  rw [s1] at s2 n2
  rw [s2] at s3 n3
  refine ⟨⟨((h.alloc _).alloc _).alloc _, ((n1.alloc _).alloc _).congr fun j _ => by simp [cnt], ?_, n3⟩, by rw [s3]⟩
  rw [Deep.blk_alloc_lt _ _ _ (by omega)]; exact n2

/-- What the law's own loop has gathered of the first t streams. -/
def Least (last : Nat → Int) (wt okb : Nat → Bool) (t : Nat) (any least : Value) : Prop :=
  (any = .bool false ∧ least = .int .i64 0 ∧ ∀ j, j < t → wt j = true → okb j = true → False) ∨
  ∃ q, q < t ∧ any = .bool true ∧ least = .int .i64 (last q) ∧ wt q = true ∧ okb q = true ∧ ∀ j, j < t → wt j = true → okb j = true → last q ≤ last j

theorem lt_succ_cases {j t : Nat} (h : j < t + 1) : j < t ∨ j = t := by omega

theorem Least.skip {last : Nat → Int} {wt okb : Nat → Bool} {t : Nat} {any least : Value} (h : Least last wt okb t any least) (ht : wt t = true → okb t = true → False) : Least last wt okb (t + 1) any least := by
  rcases h with ⟨rfl, rfl, h⟩ | ⟨q, hq, rfl, rfl, h1, h2, h⟩
  · refine .inl ⟨rfl, rfl, fun j hj a b => ?_⟩
    rcases lt_succ_cases hj with hj | rfl
    · exact h j hj a b
    · exact ht a b
  · refine .inr ⟨q, by omega, rfl, rfl, h1, h2, fun j hj a b => ?_⟩
    rcases lt_succ_cases hj with hj | rfl
    · exact h j hj a b
    · exact (ht a b).elim

theorem least_first {last : Nat → Int} {wt okb : Nat → Bool} {t : Nat} (h : ∀ j, j < t → wt j = true → okb j = true → False) (h1 : wt t = true) (h2 : okb t = true) : Least last wt okb (t + 1) (.bool true) (.int .i64 (last t)) := by
  refine .inr ⟨t, by omega, rfl, rfl, h1, h2, fun j hj a b => ?_⟩
  rcases lt_succ_cases hj with hj | rfl
  · exact (h j hj a b).elim
  · exact Int.le_refl _

theorem least_new {last : Nat → Int} {wt okb : Nat → Bool} {t q : Nat} (h : ∀ j, j < t → wt j = true → okb j = true → last q ≤ last j) (h1 : wt t = true) (h2 : okb t = true) (hl : last t < last q) : Least last wt okb (t + 1) (.bool true) (.int .i64 (last t)) := by
  refine .inr ⟨t, by omega, rfl, rfl, h1, h2, fun j hj a b => ?_⟩
  rcases lt_succ_cases hj with hj | rfl
  · have := h j hj a b; omega
  · exact Int.le_refl _

theorem least_old {last : Nat → Int} {wt okb : Nat → Bool} {t q : Nat} (hq : q < t) (hw : wt q = true) (ho : okb q = true) (h : ∀ j, j < t → wt j = true → okb j = true → last q ≤ last j) (hl : last q ≤ last t) : Least last wt okb (t + 1) (.bool true) (.int .i64 (last q)) := by
  refine .inr ⟨q, by omega, rfl, rfl, hw, ho, fun j hj a b => ?_⟩
  rcases lt_succ_cases hj with hj | rfl
  · exact h j hj a b
  · exact hl

set_option maxRecDepth 100000 in
set_option maxHeartbeats 4000000 in
theorem law (a : Option Addr) (n cap : Nat) (last : Nat → Int) (wt okb : Nat → Bool) (w : World) (hn : n ≤ 1024) (hd : Data w a n last wt okb) :
    Calls Yba.prog 3 #[.slice a n cap] w fun e w' => e = .returned (.bool true) ∧ Below w.heap.size w w' := by
  have HD : Hid (Data w a n last wt okb) := hd
  clear hd
  have hmm := run_makeMap_hint
  have hmk := run_make_row' (P := Yba.prog) 48 49 _ 8 Yba.underlying48 info49 rfl .i64 .i64 n (by omega) (by omega)
  have hd0 : decide ((1024 : Int) < n) = false := by simp; omega
  go_enter Yba.func3, Yba.ntmps3
  go_wp2
  clear hmm hmk hd0
  go_loopg [5] n (fun g i wr => ∃ k : Nat, g + k = n ∧ i = .int .i64 (k : Int) ∧ St w a n cap k k k (soOf w.heap.size last wt) wr ∧ wr.heap.size = w.heap.size + 5 + k)
  case atStart =>
    obtain ⟨h1, h2⟩ := st_start w a n cap (soOf w.heap.size last wt)
    exact ⟨0, rfl, rfl, h1, h2⟩
  case round =>
    obtain ⟨k, hg, rfl, hst, hsz⟩ := hrel
    have HS : Hid (St w a n cap k k k (soOf w.heap.size last wt) wr) := hst
    have HZ : Hid (wr.heap.size = w.heap.size + 5 + k) := hsz
    have hb0 := cellOf (i := 0) hst.box rfl
    clear hst hsz
    by_cases hlt : k < n
    · obtain ⟨B, o, rfl, hB, hdat⟩ := HD.out (by omega)
      obtain ⟨x0, x1, x2⟩ := hdat k hlt
      have HX : Hid (w.cell? ⟨B, o + k * 3, none⟩ = some (.int .i64 (last k)) ∧ w.cell? ⟨B, o + k * 3 + 1, none⟩ = some (.bool (wt k))) := ⟨x0, x1⟩
      have HBB : Hid (B < w.heap.size) := hB
      clear hdat x0 x1 x2 hB
      go_upto_region 8 with fail
      go_cut [6] (fun s wd => s = ptr (w.heap.size + 5 + k) ∧ St w (some ⟨B, o, none⟩) n cap k k (k + 1) (fun j => if j = k then streamObj (w.heap.size + 1 + 1) k 0 0 else soOf w.heap.size last wt j) wd ∧ wd.heap.size = w.heap.size + 5 + k + 1)
      case first =>
        go_wp2
        go_meet
        refine ⟨by rw [HZ.out], HS.out.made HZ.out _, by simp [HZ.out]⟩
      case rest =>
        obtain ⟨rfl, hst, hsz⟩ := hcut
        clear hb0 HS HZ
        obtain ⟨w1, hw1⟩ : ∃ x, x = wc := ⟨_, rfl⟩
        subst hw1
        have HZ : Hid (w1.heap.size = w.heap.size + 5 + k + 1) := hsz
        have hb0 := cellOf (i := 0) hst.box rfl
        have y0 : w1.cell? ⟨B, o + k * 3, none⟩ = some (.int .i64 (last k)) := by rw [hst.below.cell (p := ⟨B, o + k * 3, none⟩) HBB.out]; exact HX.out.1
        have hnew := hst.str k (by omega)
        simp only [if_true] at hnew
        have z3 := cellOf (i := 3) hnew rfl
        have f3 := frozenOf 3 hnew
        have HS : Hid (St w (some ⟨B, o, none⟩) n cap k k (k + 1) (fun j => if j = k then streamObj (w.heap.size + 1 + 1) k 0 0 else soOf w.heap.size last wt j) w1) := hst
        clear hst hsz hnew
        go_upto_region 9 with fail
        go_cut [] (fun wd => St w (some ⟨B, o, none⟩) n cap k k (k + 1) (fun j => if j = k then streamObj (w.heap.size + 1 + 1) k (last k) 0 else soOf w.heap.size last wt j) wd ∧ wd.heap.size = w.heap.size + 5 + k + 1)
        case first =>
          have e1 : w.heap.size ≠ w.heap.size + 5 + k := by omega
          have e2 : B ≠ w.heap.size + 5 + k := by have := HBB.out; omega
          go_region_held3 (fun w' => w'.cell? ⟨w.heap.size, 0, none⟩ = some (.slice (some ⟨B, o, none⟩) n cap) ∧ w'.cell? ⟨B, o + k * 3, none⟩ = some (.int .i64 (last k))) (first | exact ⟨hb0, y0⟩ | exact ⟨cell_set_far e1 hb0, cell_set_far e2 y0⟩)
            (first | (go_at_call 4; refine (store64 (w.heap.size + 5 + k) 3 (last k) (.int .i64 0) _ ?_ ?_).mono ?_; (exact z3); (exact f3); rintro e w' ⟨rfl, rfl⟩))
          go_wp2
          go_meet
          exact ⟨(HS.out.setStr 3 (.int .i64 (last k)) rfl).drew, by simpa [World.setCell] using HZ.out⟩
        case rest =>
          obtain ⟨hst, hsz⟩ := hcut
          clear hb0 HS HZ y0 z3 f3
          obtain ⟨w2, hw2⟩ : ∃ x, x = wc := ⟨_, rfl⟩
          subst hw2
          have HZ : Hid (w2.heap.size = w.heap.size + 5 + k + 1) := hsz
          have hb0 := cellOf (i := 0) hst.box rfl
          have y1 : w2.cell? ⟨B, o + k * 3 + 1, none⟩ = some (.bool (wt k)) := by rw [hst.below.cell (p := ⟨B, o + k * 3 + 1, none⟩) HBB.out]; exact HX.out.2
          have hnew := hst.str k (by omega)
          simp only [if_true] at hnew
          have z4 := cellOf (i := 4) hnew rfl
          have f4 := frozenOf 4 hnew
          have HS : Hid (St w (some ⟨B, o, none⟩) n cap k k (k + 1) (fun j => if j = k then streamObj (w.heap.size + 1 + 1) k (last k) 0 else soOf w.heap.size last wt j) w2) := hst
          clear hst hsz hnew
          go_upto_region 10 with fail
          go_cut [] (fun wd => St w (some ⟨B, o, none⟩) n cap k k (k + 1) (soOf w.heap.size last wt) wd ∧ wd.heap.size = w.heap.size + 5 + k + 1)
          case first =>
            have e1 : w.heap.size ≠ w.heap.size + 5 + k := by omega
            have e2 : B ≠ w.heap.size + 5 + k := by have := HBB.out; omega
            go_region_held3 (fun w' => w'.cell? ⟨w.heap.size, 0, none⟩ = some (.slice (some ⟨B, o, none⟩) n cap) ∧ w'.cell? ⟨B, o + k * 3 + 1, none⟩ = some (.bool (wt k))) (first | exact ⟨hb0, y1⟩ | exact ⟨cell_set_far e1 hb0, cell_set_far e2 y1⟩)
              (first | (go_at_call 5; refine (storeb (w.heap.size + 5 + k) 4 (wt k) (.int .u32 0) _ ?_ ?_).mono ?_; (exact z4); (exact f4); rintro e w' ⟨rfl, rfl⟩))
            go_wp2
            go_meet
            have hh := HS.out.setStr (o' := soOf w.heap.size last wt k) 4 (.int .u32 (bit (wt k))) rfl
            have hso : (fun j => if j = k then soOf w.heap.size last wt k else soOf w.heap.size last wt j) = soOf w.heap.size last wt := by
              funext j
              by_cases e : j = k
              · subst e; simp
              · simp [e]
            rw [hso] at hh
            exact ⟨hh.drew.drew, by simpa [World.setCell] using HZ.out⟩
          case rest =>
            obtain ⟨hst, hsz⟩ := hcut
            clear hb0 HS HZ y1 z4 f4
            obtain ⟨w3, hw3⟩ : ∃ x, x = wc := ⟨_, rfl⟩
            subst hw3
            have HZ : Hid (w3.heap.size = w.heap.size + 5 + k + 1) := hsz
            have hl0 := cellOf (i := 0) hst.lst rfl
            have hlk := hst.row.cell hlt
            have hfk := hst.row.frozen k
            simp only [Nat.lt_irrefl, if_false] at hlk
            have HS : Hid (St w (some ⟨B, o, none⟩) n cap k k (k + 1) (soOf w.heap.size last wt) w3) := hst
            clear hst hsz
            go_upto_region 11 with fail
            go_cut [] (fun wd => St w (some ⟨B, o, none⟩) n cap k (k + 1) (k + 1) (soOf w.heap.size last wt) wd ∧ wd.heap.size = w.heap.size + 5 + k + 1)
            case first =>
              go_wp2
              go_meet
              exact ⟨HS.out.setRow, by simpa [World.setCell] using HZ.out⟩
            case rest =>
              obtain ⟨hst, hsz⟩ := hcut
              clear hl0 hlk hfk HS HZ
              have hi := cellOf (i := 14) hst.inn rfl
              obtain ⟨w5, hup, hst5, hsz5⟩ := hst.upd (by omega) (fun j _ => ⟨_, rfl⟩)
              have HS : Hid (St w (some ⟨B, o, none⟩) n cap (k + 1) (k + 1) (k + 1) (soOf w.heap.size last wt) w5) := hst5
              have HZ : Hid (w5.heap.size = w.heap.size + 5 + (k + 1)) := by show _ = _; rw [hsz5, hsz]; omega
              clear hst hsz hst5 hsz5
              go_wp2
              go_roundg (gk - 1)
              case measure => omega
              case rel => exact ⟨k + 1, by omega, by go_num, HS.out, HZ.out⟩
    · obtain rfl : k = n := by omega
      have hmk := run_make_row' (P := Yba.prog) 65 3 _ 8 Yba.underlying65 info3 rfl .i64 .i64 k (by omega) (by omega)
      go_wp2_with fail
      obtain ⟨hR0, hZ0⟩ := run_start HS.out HZ.out
      simp only [HZ.out]
      refine (quietest w a k cap last wt okb _ hn HD.out hR0 hZ0).mono ?_
      rintro e w2 ⟨v, S, rfl, hR, hSall, hbest⟩
      have HR : Hid (Run w a k cap last wt S w2) := hR
      have HSall : Hid (∀ j, j < k → S j = true) := hSall
      have HBest : Hid (Best w.heap.size k last wt okb S v) := hbest
      have hbad := cellOf (i := 0) hR.bad rfl
      have hbx := cellOf (i := 0) hR.st.box rfl
      clear hR hSall hbest hR0 hZ0 HS HZ hb0 hmk
      go_wp2
      go_loopg [11, 12, 13] k (fun g any least i wr => ∃ t : Nat, g + t = k ∧ i = .int .i64 (t : Int) ∧ wr = w2 ∧ Least last wt okb t any least)
      case atStart => exact ⟨0, rfl, rfl, rfl, .inl ⟨rfl, rfl, fun j hj => absurd hj (by omega)⟩⟩
      case round =>
        obtain ⟨t, hgt, rfl, rfl, hleast⟩ := hrel
        have HL : Hid (Least last wt okb t u11 u12) := hleast
        clear hleast
        by_cases hlt2 : t < k
        · obtain ⟨B, o, rfl, hB, hdat⟩ := HD.out (by omega)
          obtain ⟨x0, x1, x2⟩ := hdat t hlt2
          have y0 : wr.cell? ⟨B, o + t * 3, none⟩ = some (.int .i64 (last t)) := by rw [HR.out.st.below.cell (p := ⟨B, o + t * 3, none⟩) hB]; exact x0
          have y1 : wr.cell? ⟨B, o + t * 3 + 1, none⟩ = some (.bool (wt t)) := by rw [HR.out.st.below.cell (p := ⟨B, o + t * 3 + 1, none⟩) hB]; exact x1
          have y2 : wr.cell? ⟨B, o + t * 3 + 2, none⟩ = some (.bool (okb t)) := by rw [HR.out.st.below.cell (p := ⟨B, o + t * 3 + 2, none⟩) hB]; exact x2
          have c0 := cellOf (i := 0) HR.out.cv rfl
          have ct := HR.out.calls.cell hlt2
          have hct : cnt S wt t = if wt t then 1 else 0 := by simp [cnt, HSall.out t hlt2]
          rw [hct] at ct
          clear hdat x0 x1 x2 hct
          cases hw : wt t with
          | false =>
            rw [hw] at y1 ct
            simp only [Bool.false_eq_true, if_false] at ct
            go_wp2
            go_roundg (gk - 1)
            case measure => omega
            case rel => exact ⟨t + 1, by omega, by go_num, rfl, HL.out.skip (fun h => by rw [hw] at h; cases h)⟩
          | true =>
            rw [hw] at y1 ct
            simp only [if_true] at ct
            cases ho : okb t with
            | false =>
              rw [ho] at y2
              go_wp2
              go_roundg (gk - 1)
              case measure => omega
              case rel => exact ⟨t + 1, by omega, by go_num, rfl, HL.out.skip (fun _ h => by rw [ho] at h; cases h)⟩
            | true =>
              rw [ho] at y2
              rcases HL.out with ⟨rfl, rfl, hno⟩ | ⟨q, hq, rfl, rfl, hwq, hoq, hle⟩
              · have HN : Hid (∀ j, j < t → wt j = true → okb j = true → False) := hno
                clear hno HL
                go_wp2
                go_roundg (gk - 1)
                case measure => omega
                case rel => exact ⟨t + 1, by omega, by go_num, rfl, least_first HN.out hw ho⟩
              · have HQ : Hid (q < t ∧ wt q = true ∧ okb q = true ∧ ∀ j, j < t → wt j = true → okb j = true → last q ≤ last j) := ⟨hq, hwq, hoq, hle⟩
                clear hle hwq hoq HL
                by_cases hl : last t < last q
                · go_wp2
                  go_roundg (gk - 1)
                  case measure => omega
                  case rel => exact ⟨t + 1, by omega, by go_num, rfl, least_new HQ.out.2.2.2 hw ho hl⟩
                · go_wp2
                  go_roundg (gk - 1)
                  case measure => omega
                  case rel => exact ⟨t + 1, by omega, by go_num, rfl, least_old HQ.out.1 HQ.out.2.1 HQ.out.2.2.1 HQ.out.2.2.2 (by omega)⟩
        · obtain rfl : t = k := by omega
          rcases HL.out with ⟨rfl, rfl, hno⟩ | ⟨q, hq, rfl, rfl, hwq, hoq, hle⟩
          · rcases HBest.out with ⟨rfl, _⟩ | ⟨q, hq, rfl, hwq, hoq, _⟩
            · clear hno
              go_wp2
              go_ret
              exact ⟨rfl, HR.out.st.below⟩
            · exact (hno q hq hwq hoq).elim
          · rcases HBest.out with ⟨rfl, hno⟩ | ⟨p, hp, rfl, hwp, hop, hbe⟩
            · exact (hno q hq (HSall.out q hq) hwq hoq).elim
            · have hpq : last p = last q := by
                have h1 := hbe q hq (HSall.out q hq) hwq hoq
                have h2 := hle p hp hwp hop
                omega
              obtain ⟨B, o, rfl, hB, hdat⟩ := HD.out (by omega)
              obtain ⟨x0, x1, x2⟩ := hdat p hp
              have y0 : wr.cell? ⟨B, o + p * 3, none⟩ = some (.int .i64 (last q)) := by rw [HR.out.st.below.cell (p := ⟨B, o + p * 3, none⟩) hB, ← hpq]; exact x0
              have y1 : wr.cell? ⟨B, o + p * 3 + 1, none⟩ = some (.bool true) := by rw [HR.out.st.below.cell (p := ⟨B, o + p * 3 + 1, none⟩) hB, ← hwp]; exact x1
              have y2 : wr.cell? ⟨B, o + p * 3 + 2, none⟩ = some (.bool true) := by rw [HR.out.st.below.cell (p := ⟨B, o + p * 3 + 2, none⟩) hB, ← hop]; exact x2
              have l0 := cellOf (i := 0) HR.out.st.lst rfl
              have lp := HR.out.st.row.cell hp
              simp only [hp, if_true] at lp
              have s2 := cellOf (i := 2) (HR.out.st.str p hp) rfl
              have s3 : wr.cell? ⟨w.heap.size + 5 + p, 3, none⟩ = some (.int .i64 (last q)) := by rw [← hpq]; exact cellOf (HR.out.st.str p hp) rfl
              have heq := eq49
              clear hdat x0 x1 x2 hbe hle hwq hoq hwp hop HL
              go_wp2_with (go_at_call 8; refine (load64 _ _ _ _ s3).mono ?_; rintro e w' ⟨rfl, rfl⟩)
              go_ret
              exact ⟨rfl, HR.out.st.below⟩
end Go.Proofs.Ybulkacks.Q
