/-
  The seat b6003855a: whole numbers below 2^53 as doubles: what the model's operations do to them.
-/
import Derived.Laws.FloatArith
namespace Go.Proofs.Qxb6003855a
open Ieee

/-- The word of the whole number x (below 2^53). -/
def fl (x : Nat) : Nat := if x = 0 then 0 else (x.log2 + 1022) * 2 ^ 52 + x * 2 ^ (52 - x.log2)

theorem cut_exact (n d s : Nat) (h : n = s * 2 ^ d) (hd : d ≤ n.log2 + 2) : Toward.even.cut false n d = s := by
  unfold Toward.cut
  have e : min d (n.log2 + 2) = d := Nat.min_eq_left hd
  simp only [e, Nat.one_shiftLeft]
  have h1 : n / 2 ^ d = s := by rw [h, Nat.mul_div_cancel _ (Nat.two_pow_pos d)]
  have h2 : n % 2 ^ d = 0 := by rw [h, Nat.mul_mod_left]
  rw [h1, h2]
  simp

theorem log2_mul_pow (x k : Nat) (hx : x ≠ 0) : (x * 2 ^ k).log2 = x.log2 + k := by
  have h1 := Nat.log2_self_le hx
  have h2 := Nat.lt_log2_self (n := x)
  have hne : x * 2 ^ k ≠ 0 := Nat.mul_ne_zero hx (by have := Nat.two_pow_pos k; omega)
  apply Nat.le_antisymm
  · have : (x * 2 ^ k).log2 < x.log2 + 1 + k := by
      rw [Nat.log2_lt hne, Nat.pow_add]
      exact Nat.mul_lt_mul_of_pos_right h2 (Nat.two_pow_pos k)
    omega
  · rw [Nat.le_log2 hne, Nat.pow_add]
    exact Nat.mul_le_mul_right _ h1

/-- The significand of x. -/
theorem sig_bd (x : Nat) (hx : x ≠ 0) (h : x < 2 ^ 53) : x.log2 ≤ 52 ∧ 2 ^ 52 ≤ x * 2 ^ (52 - x.log2) ∧ x * 2 ^ (52 - x.log2) < 2 ^ 53 := by
  have hl : x.log2 ≤ 52 := by
    have : x.log2 < 53 := (Nat.log2_lt hx).2 h
    omega
  have h1 := Nat.log2_self_le hx
  have h2 := Nat.lt_log2_self (n := x)
  refine ⟨hl, ?_, ?_⟩
  · have e : 2 ^ 52 = 2 ^ x.log2 * 2 ^ (52 - x.log2) := by rw [← Nat.pow_add]; congr 1; omega
    rw [e]
    exact Nat.mul_le_mul_right _ h1
  · have e : 2 ^ 53 = 2 ^ (x.log2 + 1) * 2 ^ (52 - x.log2) := by rw [← Nat.pow_add]; congr 1; omega
    rw [e]
    exact Nat.mul_lt_mul_of_pos_right h2 (Nat.two_pow_pos _)

theorem nearest_fl (x k : Nat) (h : x < 2 ^ 53) : double.nearest false (x * 2 ^ k) (-(k : Int)) = fl x := by
  unfold Format.nearest fl
  by_cases hx : x = 0
  · subst hx
    simp [Format.word]
  · have hne : ¬ x * 2 ^ k = 0 := Nat.mul_ne_zero hx (by have := Nat.two_pow_pos k; omega)
    obtain ⟨hl, hs1, hs2⟩ := sig_bd x hx h
    rw [if_neg hne, if_neg hx]
    have hlog := log2_mul_pow x k hx
    have hlast : max (-(k : Int) + ((x * 2 ^ k).log2 : Nat) - (double.fractionBits : Nat)) double.leastPlace = (x.log2 : Int) - 52 := by
      rw [hlog]
      have e1 : (double.fractionBits : Nat) = 52 := rfl
      have e2 : double.leastPlace = -1074 := by decide
      rw [e1, e2]; omega
    simp only [hlast]
    have hkept : Toward.even.cut false ((x * 2 ^ k) <<< (-(k : Int) - ((x.log2 : Int) - 52)).toNat) (((x.log2 : Int) - 52) - -(k : Int)).toNat = x * 2 ^ (52 - x.log2) := by
      rcases Nat.le_total k (52 - x.log2) with hk | hk
      · have e1 : (-(k : Int) - ((x.log2 : Int) - 52)).toNat = 52 - x.log2 - k := by omega
        have e2 : (((x.log2 : Int) - 52) - -(k : Int)).toNat = 0 := by omega
        rw [e1, e2, Nat.shiftLeft_eq]
        apply cut_exact
        · rw [Nat.pow_zero, Nat.mul_one, Nat.mul_assoc, ← Nat.pow_add]
          congr 2; omega
        · omega
      · have e1 : (-(k : Int) - ((x.log2 : Int) - 52)).toNat = 0 := by omega
        have e2 : (((x.log2 : Int) - 52) - -(k : Int)).toNat = k - (52 - x.log2) := by omega
        rw [e1, e2, Nat.shiftLeft_zero]
        apply cut_exact
        · rw [Nat.mul_assoc, ← Nat.pow_add]
          congr 2; omega
        · rw [hlog]; omega
    rw [hkept]
    have e2 : double.leastPlace = -1074 := by decide
    have e3 : double.binade = 2 ^ 52 := rfl
    have e4 : double.infRung = 2047 * 2 ^ 52 := by decide
    have e5 : (((x.log2 : Int) - 52) - double.leastPlace).toNat = x.log2 + 1022 := by rw [e2]; omega
    rw [e5, e3, e4, Nat.min_eq_left (by omega)]
    rfl

theorem write_fl (x k : Nat) (h : x < 2 ^ 53) : double.write (.number false (x * 2 ^ k) (-(k : Int))) = fl x := nearest_fl x k h

theorem read_fl (x : Nat) (h : x < 2 ^ 53) : ∃ j : Nat, double.read (fl x) = .number false (x * 2 ^ j) (-(j : Int)) := by
  by_cases hx : x = 0
  · subst hx
    have e : double.read 0 = .number false 0 double.leastPlace := rfl
    have key : ∀ J : Nat, double.leastPlace = -(J : Int) → ∃ j : Nat, double.read (fl 0) = .number false (0 * 2 ^ j) (-(j : Int)) := fun J hJ => ⟨J, by
      rw [Nat.zero_mul]
      show double.read 0 = _
      rw [e, hJ]⟩
    exact key 1074 (by decide)
  · refine ⟨52 - x.log2, ?_⟩
    obtain ⟨hl, hs1, hs2⟩ := sig_bd x hx h
    unfold fl
    rw [if_neg hx]
    generalize hM : x * 2 ^ (52 - x.log2) = M at *
    have e2 : double.leastPlace = -1074 := by decide
    have e3 : double.binade = 2 ^ 52 := rfl
    have e4 : double.infRung = 2047 * 2 ^ 52 := by decide
    have e6 : double.signWeight = 2 ^ 63 := rfl
    unfold Format.read
    simp only [e2, e3, e4, e6]
    have f1 : ((x.log2 + 1022) * 2 ^ 52 + M) / 2 ^ 63 % 2 = 0 := by omega
    have f2 : ((x.log2 + 1022) * 2 ^ 52 + M) % 2 ^ 63 = (x.log2 + 1022) * 2 ^ 52 + M := by omega
    rw [f1, f2, if_neg (by omega), if_pos (by omega)]
    have f3 : 2 ^ 52 + ((x.log2 + 1022) * 2 ^ 52 + M) % 2 ^ 52 = M := by omega
    have f4 : ((x.log2 + 1022) * 2 ^ 52 + M) / 2 ^ 52 - 1 = x.log2 + 1022 := by omega
    rw [f3, f4]
    have f5 : (-1074 : Int) + ((x.log2 + 1022 : Nat) : Int) = -((52 - x.log2 : Nat) : Int) := by omega
    rw [f5]
    rfl

theorem shift_up (x i K : Nat) (h : i ≤ K) : (x * 2 ^ i) <<< (-(i : Int) - -(K : Int)).toNat = x * 2 ^ K := by
  have e : (-(i : Int) - -(K : Int)).toNat = K - i := by omega
  rw [e, Nat.shiftLeft_eq, Nat.mul_assoc, ← Nat.pow_add]
  congr 2; omega

theorem mul_fl (x y : Nat) (hx : x < 2 ^ 53) (hy : y < 2 ^ 53) (h : x * y < 2 ^ 53) : double.mul (fl x) (fl y) = some (fl (x * y)) := by
  obtain ⟨i, ei⟩ := read_fl x hx
  obtain ⟨j, ej⟩ := read_fl y hy
  unfold Format.mul
  rw [ei, ej]
  simp only [Datum.product, Option.map_some]
  have e1 : x * 2 ^ i * (y * 2 ^ j) = x * y * 2 ^ (i + j) := by
    rw [Nat.pow_add]; ac_rfl
  have e2 : -(i : Int) + -(j : Int) = -((i + j : Nat) : Int) := by omega
  have e3 : (false ^^ false) = false := rfl
  rw [e1, e2, e3, write_fl _ _ h]

theorem base_min (i j : Nat) : min (-(i : Int)) (-(j : Int)) = -((max i j : Nat) : Int) := by omega

theorem add_fl (x y : Nat) (hx : x < 2 ^ 53) (hy : y < 2 ^ 53) (h : x + y < 2 ^ 53) : double.add (fl x) (fl y) = some (fl (x + y)) := by
  obtain ⟨i, ei⟩ := read_fl x hx
  obtain ⟨j, ej⟩ := read_fl y hy
  unfold Format.add
  rw [ei, ej]
  simp only [Datum.sum, Option.map_some, base_min]
  generalize hK : max i j = K
  have s1 : signed false (x * 2 ^ i) (-(i : Int) - -(K : Int)).toNat = ((x * 2 ^ K : Nat) : Int) := by
    unfold signed; rw [if_neg (by simp), shift_up x i K (by omega)]
  have s2 : signed false (y * 2 ^ j) (-(j : Int) - -(K : Int)).toNat = ((y * 2 ^ K : Nat) : Int) := by
    unfold signed; rw [if_neg (by simp), shift_up y j K (by omega)]
  rw [s1, s2]
  have e1 : ((x * 2 ^ K : Nat) : Int) + ((y * 2 ^ K : Nat) : Int) = (((x + y) * 2 ^ K : Nat) : Int) := by rw [Nat.add_mul]; omega
  rw [e1, Int.natAbs_natCast]
  have e2 : (if (((x + y) * 2 ^ K : Nat) : Int) = 0 then (false && false) else decide ((((x + y) * 2 ^ K : Nat) : Int) < 0)) = false := by
    split
    · rfl
    · simp only [decide_eq_false_iff_not]; omega
  rw [e2, write_fl _ _ h]

theorem sub_fl (x y : Nat) (hx : x < 2 ^ 53) (h : y ≤ x) : double.sub (fl x) (fl y) = some (fl (x - y)) := by
  obtain ⟨i, ei⟩ := read_fl x hx
  obtain ⟨j, ej⟩ := read_fl y (by omega)
  unfold Format.sub
  rw [ei, ej]
  simp only [Datum.opposite, Datum.sum, Option.map_some, base_min]
  generalize hK : max i j = K
  have s1 : signed false (x * 2 ^ i) (-(i : Int) - -(K : Int)).toNat = ((x * 2 ^ K : Nat) : Int) := by
    unfold signed; rw [if_neg (by simp), shift_up x i K (by omega)]
  have s2 : signed (!false) (y * 2 ^ j) (-(j : Int) - -(K : Int)).toNat = -((y * 2 ^ K : Nat) : Int) := by
    unfold signed; rw [if_pos (by simp), shift_up y j K (by omega)]
  rw [s1, s2]
  have hle : y * 2 ^ K ≤ x * 2 ^ K := Nat.mul_le_mul_right _ h
  have e1 : ((x * 2 ^ K : Nat) : Int) + -((y * 2 ^ K : Nat) : Int) = (((x - y) * 2 ^ K : Nat) : Int) := by rw [Nat.sub_mul]; omega
  rw [e1, Int.natAbs_natCast]
  have e2 : (if (((x - y) * 2 ^ K : Nat) : Int) = 0 then (false && !false) else decide ((((x - y) * 2 ^ K : Nat) : Int) < 0)) = false := by
    split
    · rfl
    · simp only [decide_eq_false_iff_not]; omega
  rw [e2, write_fl _ _ (by omega)]

theorem order_fl (x y : Nat) (hx : x < 2 ^ 53) (hy : y < 2 ^ 53) : double.order (fl x) (fl y) = some (compare (x : Int) (y : Int)) := by
  obtain ⟨i, ei⟩ := read_fl x hx
  obtain ⟨j, ej⟩ := read_fl y hy
  unfold Format.order
  rw [ei, ej]
  simp only [Datum.order, base_min]
  generalize hK : max i j = K
  have s1 : signed false (x * 2 ^ i) (-(i : Int) - -(K : Int)).toNat = ((x * 2 ^ K : Nat) : Int) := by
    unfold signed; rw [if_neg (by simp), shift_up x i K (by omega)]
  have s2 : signed false (y * 2 ^ j) (-(j : Int) - -(K : Int)).toNat = ((y * 2 ^ K : Nat) : Int) := by
    unfold signed; rw [if_neg (by simp), shift_up y j K (by omega)]
  rw [s1, s2]
  have hp := Nat.two_pow_pos K
  congr 1
  simp only [compare, compareOfLessAndEq]
  have i1 : (((x * 2 ^ K : Nat) : Int) < ((y * 2 ^ K : Nat) : Int)) ↔ ((x : Int) < (y : Int)) := by
    constructor
    · intro h; have h' : x * 2 ^ K < y * 2 ^ K := by omega
      have := Nat.lt_of_mul_lt_mul_right h'; omega
    · intro h; have h' : x < y := by omega
      have := Nat.mul_lt_mul_of_pos_right h' hp; omega
  have i2 : (((x * 2 ^ K : Nat) : Int) = ((y * 2 ^ K : Nat) : Int)) ↔ ((x : Int) = (y : Int)) := by
    constructor
    · intro h; have h' : x * 2 ^ K = y * 2 ^ K := by omega
      have := Nat.eq_of_mul_eq_mul_right hp h'; omega
    · intro h; have h' : x = y := by omega
      subst h'; rfl
  simp only [i1, i2]

theorem div_self_fl (x : Nat) (hx : x ≠ 0) (h : x < 2 ^ 53) : double.div (fl x) (fl x) = some (fl 1) := by
  obtain ⟨i, ei⟩ := read_fl x h
  unfold Format.div
  rw [ei]
  have hne : ¬ x * 2 ^ i = 0 := Nat.mul_ne_zero hx (by have := Nat.two_pow_pos i; omega)
  simp only [Datum.quotient, if_neg hne, Option.map_some]
  generalize x * 2 ^ i = M at hne
  have e1 : double.fractionBits + 2 + M.log2 - M.log2 = 54 := by
    have : double.fractionBits = 52 := rfl
    omega
  rw [e1, Nat.shiftLeft_eq, Nat.mul_div_cancel_left _ (by omega), Nat.mul_mod_right]
  have e2 : (false ^^ false) = false := rfl
  have e3 : (-(i : Int)) - -(i : Int) - ((54 : Nat) : Int) - 1 = -((55 : Nat) : Int) := by omega
  rw [e2, e3]
  have e4 : 2 * 2 ^ 54 + ((0 : Nat) != 0).toNat = 1 * 2 ^ 55 := by decide
  rw [e4, write_fl 1 55 (by decide)]

end Go.Proofs.Qxb6003855a
