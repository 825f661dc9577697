/-
  PLAIN LAWS ON float64's WORDS, AS THE MODEL's ARITHMETIC HAS THEM: a sum or a product that is a NaN has bits that the tape says; so a value is known up to 'the same word, or both NaN' (Sim).
-/
import Derived.Laws.FloatArith
import Derived.Laws.BitsAllLaws
import Derived.Deep.Draws
namespace Go.Fl

abbrev D : Ieee.Format := Ieee.double
theorem fmt64 : FloatKind.f64.format = D := rfl
theorem binade_eq : D.binade = 4503599627370496 := by decide
theorem sign_eq : D.signWeight = 9223372036854775808 := by decide
theorem inf_eq : D.infRung = 9218868437227405312 := by decide
theorem least_eq : D.leastPlace = -1074 := by decide
theorem frac_eq : D.fractionBits = 52 := by decide

/-- A NaN. -/
def IsNaN (x : Nat) : Prop := D.infRung < x % D.signWeight

theorem read_eq (x : Nat) : D.read x = if x % 9223372036854775808 < 4503599627370496 then .number (x / 9223372036854775808 % 2 == 1) (x % 9223372036854775808) (-1074)
    else if x % 9223372036854775808 < 9218868437227405312 then .number (x / 9223372036854775808 % 2 == 1) (4503599627370496 + x % 9223372036854775808 % 4503599627370496) (-1074 + (x % 9223372036854775808 / 4503599627370496 - 1 : Nat))
    else if x % 9223372036854775808 = 9218868437227405312 then .infinity (x / 9223372036854775808 % 2 == 1) else .nan (x / 9223372036854775808 % 2 == 1) (x % 9223372036854775808 - 9218868437227405312) := by
  unfold Ieee.Format.read
  rw [binade_eq, inf_eq, sign_eq, least_eq]

theorem read_nan {x : Nat} (h : IsNaN x) : ∃ s f, D.read x = .nan s f := by
  unfold IsNaN at h
  rw [inf_eq, sign_eq] at h
  rw [read_eq, if_neg (by omega), if_neg (by omega), if_neg (by omega)]
  exact ⟨_, _, rfl⟩

theorem not_nan {x : Nat} (h : ¬ IsNaN x) : (∃ s m e, D.read x = .number s m e) ∨ ∃ s, D.read x = .infinity s := by
  unfold IsNaN at h
  rw [inf_eq, sign_eq] at h
  rw [read_eq]
  split
  · exact .inl ⟨_, _, _, rfl⟩
  · split
    · exact .inl ⟨_, _, _, rfl⟩
    · rw [if_pos (by omega)]; exact .inr ⟨_, rfl⟩

/-- What 'x + y' may give. -/
def IsAdd (x y r : Nat) : Prop := D.add x y = some r ∨ (D.add x y = none ∧ IsNaN r ∧ r < 2 ^ 64)
def IsMul (x y r : Nat) : Prop := D.mul x y = some r ∨ (D.mul x y = none ∧ IsNaN r ∧ r < 2 ^ 64)

theorem IsMul.lt {x y r : Nat} (h : IsMul x y r) : r < 2 ^ 64 := by
  rcases h with h | h
  · exact D.mul_lt h
  · exact h.2.2

/-- The same word, or both NaN. -/
def Sim (a b : Nat) : Prop := a = b ∨ (IsNaN a ∧ IsNaN b)

theorem Sim.refl (a : Nat) : Sim a a := .inl rfl

theorem add_nan_left {x : Nat} (h : IsNaN x) (y : Nat) : D.add x y = none := by
  obtain ⟨s, f, e⟩ := read_nan h
  simp [Ieee.Format.add, e, Ieee.Datum.sum]
theorem add_nan_right {y : Nat} (h : IsNaN y) (x : Nat) : D.add x y = none := by
  obtain ⟨s, f, e⟩ := read_nan h
  unfold Ieee.Format.add
  rw [e]
  cases D.read x <;> simp [Ieee.Datum.sum]
theorem mul_nan_left {x : Nat} (h : IsNaN x) (y : Nat) : D.mul x y = none := by
  obtain ⟨s, f, e⟩ := read_nan h
  simp [Ieee.Format.mul, e, Ieee.Datum.product]
theorem mul_nan_right {y : Nat} (h : IsNaN y) (x : Nat) : D.mul x y = none := by
  obtain ⟨s, f, e⟩ := read_nan h
  unfold Ieee.Format.mul
  rw [e]
  cases D.read x <;> simp [Ieee.Datum.product]

theorem IsAdd.sim {x y r x' y' r' : Nat} (h : IsAdd x y r) (h' : IsAdd x' y' r') (hx : Sim x x') (hy : Sim y y') : Sim r r' := by
  have hn : ∀ {x y r}, IsAdd x y r → D.add x y = none → IsNaN r := fun h e => by
    rcases h with h | h
    · rw [e] at h; cases h
    · exact h.2.1
  rcases hx with rfl | ⟨hx, hx'⟩
  · rcases hy with rfl | ⟨hy, hy'⟩
    · rcases h with h | h
      · rcases h' with h' | h'
        · rw [h] at h'; exact .inl (Option.some.inj h')
        · rw [h] at h'; cases h'.1
      · exact .inr ⟨h.2.1, hn h' h.1⟩
    · exact .inr ⟨hn h (add_nan_right hy _), hn h' (add_nan_right hy' _)⟩
  · exact .inr ⟨hn h (add_nan_left hx _), hn h' (add_nan_left hx' _)⟩

theorem IsMul.sim {x y r x' y' r' : Nat} (h : IsMul x y r) (h' : IsMul x' y' r') (hx : Sim x x') (hy : Sim y y') : Sim r r' := by
  have hn : ∀ {x y r}, IsMul x y r → D.mul x y = none → IsNaN r := fun h e => by
    rcases h with h | h
    · rw [e] at h; cases h
    · exact h.2.1
  rcases hx with rfl | ⟨hx, hx'⟩
  · rcases hy with rfl | ⟨hy, hy'⟩
    · rcases h with h | h
      · rcases h' with h' | h'
        · rw [h] at h'; exact .inl (Option.some.inj h')
        · rw [h] at h'; cases h'.1
      · exact .inr ⟨h.2.1, hn h' h.1⟩
    · exact .inr ⟨hn h (mul_nan_right hy _), hn h' (mul_nan_right hy' _)⟩
  · exact .inr ⟨hn h (mul_nan_left hx _), hn h' (mul_nan_left hx' _)⟩

/-! ### The run -/
def valOf (o : Option Nat) (x y : Nat) (w : World) : Nat := match o with
  | some r => r
  | none => (Question.nanBits .f64 x y).cut (w.tape w.drawn (.nanBits .f64 x y))
def drawsOf (o : Option Nat) : Nat := match o with
  | some _ => 0
  | none => 1

def addV (x y : Nat) (w : World) : Nat := valOf (D.add x y) x y w
def addN (x y : Nat) : Nat := drawsOf (D.add x y)
def mulV (x y : Nat) (w : World) : Nat := valOf (D.mul x y) x y w
def mulN (x y : Nat) : Nat := drawsOf (D.mul x y)

theorem cut_nan (x y t : Nat) : IsNaN ((Question.nanBits .f64 x y).cut t) ∧ (Question.nanBits .f64 x y).cut t < 2 ^ 64 := by
  simp only [Question.cut]
  unfold IsNaN
  rw [inf_eq, sign_eq]
  have ha : t % 2 < 2 := Nat.mod_lt _ (by omega)
  have hc : t / 2 % (2 ^ 52 - 1) < 2 ^ 52 - 1 := Nat.mod_lt _ (by omega)
  generalize t % 2 = a at ha
  generalize t / 2 % (2 ^ 52 - 1) = c at hc
  have : a = 0 ∨ a = 1 := by omega
  rcases this with rfl | rfl <;> omega

theorem addV_is (x y : Nat) (w : World) : IsAdd x y (addV x y w) := by
  unfold IsAdd addV
  cases h : D.add x y with
  | some r => exact .inl rfl
  | none => exact .inr ⟨rfl, cut_nan x y _⟩
theorem mulV_is (x y : Nat) (w : World) : IsMul x y (mulV x y w) := by
  unfold IsMul mulV
  cases h : D.mul x y with
  | some r => exact .inl rfl
  | none => exact .inr ⟨rfl, cut_nan x y _⟩

theorem run_fadd {P : Program} (t : TypeId) (x y : Nat) (w : World) : (binOp .add t (.float .f64 x) (.float .f64 y)).run P w = .ok (.float .f64 (addV x y w)) (w.drewN (addN x y)) := by
  unfold addV addN
  cases h : D.add x y with
  | some r => simp [binOp, Op.floatArith, fmt64, h, valOf, drawsOf, World.drewN]
  | none =>
    simp [binOp, Op.floatArith, fmt64, h, valOf, drawsOf]
    rfl

theorem run_fmul {P : Program} (t : TypeId) (x y : Nat) (w : World) : (binOp .mul t (.float .f64 x) (.float .f64 y)).run P w = .ok (.float .f64 (mulV x y w)) (w.drewN (mulN x y)) := by
  unfold mulV mulN
  cases h : D.mul x y with
  | some r => simp [binOp, Op.floatArith, fmt64, h, valOf, drawsOf, World.drewN]
  | none =>
    simp [binOp, Op.floatArith, fmt64, h, valOf, drawsOf]
    rfl

/-! ### x + 0 -/
theorem cut_exact (neg : Bool) (m k : Nat) (hm : m ≠ 0) : Ieee.Toward.even.cut neg (m * 2 ^ k) k = m := by
  have hlog : k ≤ (m * 2 ^ k).log2 + 2 := by
    have h1 : 2 ^ k ≤ m * 2 ^ k := Nat.le_mul_of_pos_left _ (by omega)
    have h2 : k ≤ (m * 2 ^ k).log2 := by
      rw [Nat.le_log2 (by have := Nat.two_pow_pos k; exact Nat.mul_ne_zero hm (by omega))]
      exact h1
    omega
  unfold Ieee.Toward.cut
  have hg : 1 <<< min k ((m * 2 ^ k).log2 + 2) = 2 ^ k := by rw [Nat.min_eq_left hlog, Nat.shiftLeft_eq, Nat.one_mul]
  rw [hg]
  have hp := Nat.two_pow_pos k
  have hd : m * 2 ^ k / 2 ^ k = m := Nat.mul_div_cancel _ hp
  have hr : m * 2 ^ k % 2 ^ k = 0 := Nat.mul_mod_left _ _
  simp only [hd, hr, Nat.mul_zero]
  have h1 : decide (2 ^ k < 0) = false := by simp
  have h2 : ((2 : Nat) ^ k == 0) = false := by simp
  simp [h2]

theorem log2_normal (f k : Nat) (hf : f < 4503599627370496) : ((4503599627370496 + f) * 2 ^ k).log2 = 52 + k := by
  have hp := Nat.two_pow_pos k
  have hne : (4503599627370496 + f) * 2 ^ k ≠ 0 := Nat.mul_ne_zero (by omega) (by omega)
  apply Nat.le_antisymm
  · rw [← Nat.lt_succ_iff, Nat.log2_lt hne]
    have : 2 ^ (52 + k).succ = 2 ^ 53 * 2 ^ k := by rw [← Nat.pow_add]; congr 1; omega
    rw [this]
    exact Nat.mul_lt_mul_of_pos_right (by omega) hp
  · rw [Nat.le_log2 hne]
    have : 2 ^ (52 + k) = 2 ^ 52 * 2 ^ k := by rw [← Nat.pow_add]
    rw [this]
    exact Nat.mul_le_mul_right _ (by omega)

/-- A normal number, its last digit's place lowered by k, is written as the word that it was. -/
theorem write_normal (neg : Bool) (f k : Nat) (hf : f < 4503599627370496) (hk : k < 2046) :
    D.nearest neg ((4503599627370496 + f) * 2 ^ k) (-1074) = D.word neg ((k + 1) * 4503599627370496 + f) := by
  have hp := Nat.two_pow_pos k
  have hne : (4503599627370496 + f) * 2 ^ k ≠ 0 := Nat.mul_ne_zero (by omega) (by omega)
  unfold Ieee.Format.nearest
  rw [if_neg hne, log2_normal f k hf, frac_eq, least_eq, binade_eq, inf_eq]
  have hlast : max ((-1074 : Int) + ((52 + k : Nat) : Int) - ((52 : Nat) : Int)) (-1074) = -1074 + (k : Int) := by omega
  rw [hlast]
  have h1 : ((-1074 : Int) - (-1074 + (k : Int))).toNat = 0 := by omega
  have h2 : ((-1074 : Int) + (k : Int) - (-1074)).toNat = k := by omega
  simp only [h1, h2, Nat.shiftLeft_zero]
  rw [cut_exact neg _ k (by omega)]
  congr 1
  omega

theorem write_sub (neg : Bool) (m : Nat) (hm : m < 4503599627370496) : D.nearest neg m (-1074) = D.word neg m := by
  unfold Ieee.Format.nearest
  by_cases h0 : m = 0
  · subst h0; simp
  · rw [if_neg h0, frac_eq, least_eq, binade_eq, inf_eq]
    have hl : m.log2 < 52 := by rw [Nat.log2_lt h0]; omega
    have hlast : max ((-1074 : Int) + (m.log2 : Int) - ((52 : Nat) : Int)) (-1074) = -1074 := by omega
    rw [hlast]
    have h1 : ((-1074 : Int) - (-1074)).toNat = 0 := by omega
    simp only [h1, Nat.shiftLeft_zero]
    have := cut_exact neg m 0 h0
    rw [Nat.pow_zero, Nat.mul_one] at this
    rw [this]
    congr 1
    omega

theorem word_of (x : Nat) (h : x < 2 ^ 64) : D.word (x / 9223372036854775808 % 2 == 1) (x % 9223372036854775808) = x := by
  unfold Ieee.Format.word
  rw [sign_eq]
  by_cases hx : x < 9223372036854775808
  · have : (x / 9223372036854775808 % 2 == 1) = false := by
      have : x / 9223372036854775808 = 0 := by omega
      rw [this]; rfl
    rw [this]; simp; omega
  · have : (x / 9223372036854775808 % 2 == 1) = true := by
      have : x / 9223372036854775808 = 1 := by omega
      rw [this]; rfl
    rw [this]; simp; omega

theorem sum_zero (s : Bool) (m k : Nat) (hz : s = true → m ≠ 0) : (Ieee.Datum.number s m (-1074 + (k : Int))).sum (.number false 0 (-1074)) = some (.number s (m * 2 ^ k) (-1074)) := by
  have hp := Nat.two_pow_pos k
  have hb : min (-1074 + (k : Int)) (-1074) = -1074 := by omega
  have hk : (-1074 + (k : Int) - -1074).toNat = k := by omega
  have hM : s = true → m * 2 ^ k ≠ 0 := fun h => Nat.mul_ne_zero (hz h) (by omega)
  simp only [Ieee.Datum.sum, hb, hk, Ieee.signed, Nat.shiftLeft_eq, Nat.zero_mul, Bool.false_eq_true, if_false, Int.natCast_zero, Int.add_zero, Bool.and_false]
  clear hz hp hb hk
  generalize m * 2 ^ k = M at hM
  cases s with
  | false =>
    have h1 : decide ((M : Int) < 0) = false := by simp
    simp
  | true =>
    have h0 : ¬ (-(M : Int) = 0) := by have := hM rfl; omega
    have h1 : decide (-(M : Int) < 0) = true := by have := hM rfl; simp; omega
    simp only [if_true]
    rw [if_neg h0, h1]
    simp

theorem add_zero (x : Nat) (h : x < 2 ^ 64) (hn : x % 9223372036854775808 ≤ 9218868437227405312) (hz : x ≠ 9223372036854775808) : D.add x 0 = some x := by
  have h0 : D.read 0 = .number false 0 (-1074) := by rw [read_eq]; rfl
  unfold Ieee.Format.add
  rw [h0, read_eq]
  have hw := word_of x h
  have hsg : (x / 9223372036854775808 % 2 == 1) = true → x % 9223372036854775808 ≠ 0 := by
    simp
    omega
  split
  · rename_i hs
    have := sum_zero (x / 9223372036854775808 % 2 == 1) (x % 9223372036854775808) 0 hsg
    simp only [Int.natCast_zero, Int.add_zero, Nat.pow_zero, Nat.mul_one] at this
    rw [this]
    simp only [Option.map_some, Option.some.injEq, Ieee.Format.write]
    rw [write_sub _ _ hs]; exact hw
  · split
    · rename_i h1 h2
      rw [sum_zero _ _ _ (fun _ => by omega)]
      simp only [Option.map_some, Option.some.injEq, Ieee.Format.write]
      rw [write_normal _ _ _ (Nat.mod_lt _ (by omega)) (by omega)]
      rw [← hw]
      congr 1
      · rw [hw]
      · rw [hw]; omega
    · rw [if_pos (by omega)]
      simp only [Ieee.Datum.sum, Option.map_some, Option.some.injEq, Ieee.Format.write]
      rw [inf_eq]
      rename_i h1 h2
      have : x % 9223372036854775808 = 9218868437227405312 := by omega
      rw [← this]; exact hw

/-! ### float64 of an integer -/
abbrev fl (n : Int) : Nat := floatOfInt .f64 n

theorem fl_lt (n : Int) : fl n < 2 ^ 64 := D.write_lt (.number (n < 0) n.natAbs 0)

theorem word_mod (neg : Bool) (r : Nat) (h : r ≤ 9218868437227405312) : D.word neg r % 9223372036854775808 = r := by
  unfold Ieee.Format.word
  rw [sign_eq]
  split <;> omega

theorem fl_word (n : Int) : ∃ r, fl n = D.word (decide (n < 0)) r ∧ r ≤ 9218868437227405312 ∧ (n < 0 → r ≠ 0) := by
  show ∃ r, D.nearest (decide (n < 0)) n.natAbs 0 = _ ∧ _
  unfold Ieee.Format.nearest
  by_cases h0 : n.natAbs = 0
  · rw [if_pos h0]
    exact ⟨0, rfl, by omega, fun h => by omega⟩
  · rw [if_neg h0, frac_eq, least_eq, binade_eq, inf_eq]
    refine ⟨_, rfl, Nat.min_le_right _ _, fun _ => ?_⟩
    have hl : (1022 : Nat) ≤ (max ((0 : Int) + (n.natAbs.log2 : Int) - ((52 : Nat) : Int)) (-1074) - (-1074)).toNat := by omega
    have : 1022 * 4503599627370496 ≤ (max ((0 : Int) + (n.natAbs.log2 : Int) - ((52 : Nat) : Int)) (-1074) - (-1074)).toNat * 4503599627370496 := Nat.mul_le_mul_right _ hl
    omega

theorem fl_zero : fl 0 = 0 := by decide

theorem add_fl (n : Int) {r : Nat} (h : IsAdd (fl n) (fl 0) r) : r = fl n := by
  rw [fl_zero] at h
  obtain ⟨q, e, hq, hne⟩ := fl_word n
  have := add_zero (fl n) (fl_lt n) (by rw [e, word_mod _ _ hq]; exact hq) (fun h => by
    rw [e] at h
    unfold Ieee.Format.word at h
    rw [sign_eq] at h
    split at h
    · rename_i hn
      have := hne (by simpa using hn)
      omega
    · omega)
  rcases h with h | h
  · rw [this] at h; exact (Option.some.inj h).symm
  · rw [this] at h; cases h.1

/-! ### math.Abs -/
def absV (x : Nat) : Nat := (bits .andNot .u64 (x : Int) 9223372036854775808).toNat

theorem absV_eq (x : Nat) (h : x < 2 ^ 64) : absV x = x % 9223372036854775808 := by
  unfold absV
  have : bits .andNot .u64 (x : Int) 9223372036854775808 = ((x &&& (18446744073709551615 - 9223372036854775808) : Nat) : Int) := u64_andNot_nat x 9223372036854775808 (by omega) (by omega)
  rw [this, Int.toNat_natCast]
  exact Nat.and_two_pow_sub_one_eq_mod x 63

theorem absV_sim {a b : Nat} (ha : a < 2 ^ 64) (hb : b < 2 ^ 64) (h : Sim a b) : Sim (absV a) (absV b) := by
  rcases h with rfl | ⟨h1, h2⟩
  · exact .inl rfl
  · rw [absV_eq a ha, absV_eq b hb]
    refine .inr ?_
    unfold IsNaN at *
    rw [sign_eq] at *
    constructor <;> rw [Nat.mod_mod] <;> assumption

theorem absV_zero : absV (fl 0) = 0 := by rw [absV_eq _ (fl_lt 0), fl_zero]

theorem add_abs (n : Int) {r : Nat} (h : IsAdd (absV (fl n)) (absV (fl 0)) r) : r = absV (fl n) := by
  rw [absV_zero] at h
  obtain ⟨q, e, hq, _⟩ := fl_word n
  have hv : absV (fl n) = q := by rw [absV_eq _ (fl_lt n), e, word_mod _ _ hq]
  rw [hv] at h ⊢
  have := add_zero q (by omega) (by omega) (by omega)
  rcases h with h | h
  · rw [this] at h; exact (Option.some.inj h).symm
  · rw [this] at h; cases h.1

/-! ### Comparing -/
theorem order_self {x : Nat} (h : ¬ IsNaN x) : D.order x x = some .eq := by
  unfold Ieee.Format.order
  rcases not_nan h with ⟨s, m, e, hr⟩ | ⟨s, hr⟩
  · rw [hr]; simp [Ieee.Datum.order]
  · rw [hr]; simp [Ieee.Datum.order]

theorem order_nan {x : Nat} (h : IsNaN x) (y : Nat) : D.order x y = none := by
  obtain ⟨s, f, e⟩ := read_nan h
  unfold Ieee.Format.order
  rw [e]; rfl

theorem order_nan_right {y : Nat} (h : IsNaN y) (x : Nat) : D.order x y = none := by
  obtain ⟨s, f, e⟩ := read_nan h
  unfold Ieee.Format.order
  rw [e]
  cases D.read x <;> rfl

theorem sim_order {a b : Nat} (h : Sim a b) (y : Nat) : D.order a y = D.order b y := by
  rcases h with rfl | ⟨h1, h2⟩
  · rfl
  · rw [order_nan h1, order_nan h2]
end Go.Fl
