/-
  Plain mathematics: the rank of a quotient: the number of its bits, less one.
-/
import Derived.Lib.BitFns
namespace Go.Proofs.Qxb6614299aMods
open Go

/-- How many bits n takes, told by the two powers of two round it. -/
theorem bitLenAux_at : ∀ (fuel n m : Nat), 2 ^ m ≤ n → n < 2 ^ (m + 1) → m < fuel → Lib.bitLenAux fuel n = m + 1
  | 0, _, _, _, _, h => absurd h (Nat.not_lt_zero _)
  | fuel + 1, n, 0, h1, h2, _ => by
    have : n = 1 := by simp at h1 h2; omega
    subst this
    cases fuel <;> rfl
  | fuel + 1, n, m + 1, h1, h2, h3 => by
    have hp : 0 < 2 ^ m := Nat.two_pow_pos m
    rw [Nat.pow_succ] at h1
    rw [Nat.pow_succ, Nat.pow_succ] at h2
    rw [Lib.bitLenAux, if_neg (by omega), bitLenAux_at fuel (n / 2) m (by omega) (by rw [Nat.pow_succ]; omega) (by omega)]
    omega

/-- Every n from 1 on lies between two powers of two. -/
theorem between : ∀ (fuel n : Nat), 1 ≤ n → n < 2 ^ fuel → ∃ m, m < fuel ∧ 2 ^ m ≤ n ∧ n < 2 ^ (m + 1)
  | 0, n, h1, h2 => by simp at h2; omega
  | fuel + 1, n, h1, h2 => by
    by_cases h : n < 2 ^ fuel
    · obtain ⟨m, a, b, c⟩ := between fuel n h1 h
      exact ⟨m, by omega, b, c⟩
    · exact ⟨fuel, by omega, by omega, h2⟩

/-- The rank of t candidates for f found. -/
def cls (t f : Int) : Int := (Lib.bitLen (t / f).toNat : Int) - 1

theorem quo_range {t f : Int} (h1 : 1 ≤ f) (h2 : f ≤ t) : 1 ≤ t / f ∧ t / f ≤ t := by
  constructor
  · exact Int.le_ediv_of_mul_le (by omega : 0 < f) (by omega : 1 * f ≤ t)
  · exact Int.ediv_le_self f (by omega)

/-- The rank is m exactly where t lies between 2^m times f and twice that. -/
theorem cls_at {t f : Int} {m : Nat} (hf : 1 ≤ f) (h1 : 2 ^ m * f ≤ t) (h2 : t < 2 ^ (m + 1) * f) (hm : m < 64) : cls t f = m := by
  have a : (2 : Int) ^ m ≤ t / f := Int.le_ediv_of_mul_le (by omega) h1
  have b : t / f < (2 : Int) ^ (m + 1) := Int.ediv_lt_of_lt_mul (by omega) h2
  have p : (0 : Int) ≤ 2 ^ m := Int.pow_nonneg (by decide)
  obtain ⟨q, hq⟩ : ∃ q : Nat, t / f = q := ⟨(t / f).toNat, by omega⟩
  rw [hq] at a b
  have a' : 2 ^ m ≤ q := by exact_mod_cast a
  have b' : q < 2 ^ (m + 1) := by exact_mod_cast b
  unfold cls
  rw [hq, Int.toNat_natCast, Lib.bitLen, bitLenAux_at 64 q m a' b' hm]
  omega

/-- Where f is found among t candidates or more, there is such an m. -/
theorem cls_between {t f : Int} (hf : 1 ≤ f) (h : f ≤ t) (ht : t ≤ 9223372036854775807) : ∃ m : Nat, m < 63 ∧ 2 ^ m * f ≤ t ∧ t < 2 ^ (m + 1) * f := by
  obtain ⟨q1, q2⟩ := quo_range hf h
  obtain ⟨q, hq⟩ : ∃ q : Nat, t / f = q := ⟨(t / f).toNat, by omega⟩
  have hlt : q < 2 ^ 63 := by simp; omega
  obtain ⟨m, hm, a, b⟩ := between 63 q (by omega) hlt
  have a' : (2 : Int) ^ m ≤ t / f := by rw [hq]; exact_mod_cast a
  have b' : t / f < (2 : Int) ^ (m + 1) := by rw [hq]; exact_mod_cast b
  exact ⟨m, hm, Int.mul_le_of_le_ediv (by omega) a', Int.lt_mul_of_ediv_lt (by omega) b'⟩

theorem pow_pos' (k : Nat) : (0 : Int) < 2 ^ k := Int.pow_pos (by decide)

theorem exp_lt {n : Nat} {f t : Int} (hf : 1 ≤ f) (h : 2 ^ n * f ≤ t) (ht : t ≤ 9223372036854775807) : n < 64 := by
  have p := pow_pos' n
  have h1 : (2 : Int) ^ n * 1 ≤ 2 ^ n * f := Int.mul_le_mul_of_nonneg_left hf (by omega)
  have h2 : (2 : Int) ^ n < 2 ^ 64 := by
    have e : (2 : Int) ^ 64 = 18446744073709551616 := by decide
    rw [e]; omega
  have h3 : 2 ^ n < 2 ^ 64 := by exact_mod_cast h2
  exact (Nat.pow_lt_pow_iff_right (by decide)).1 h3

theorem cls_range {t f : Int} (hf : 1 ≤ f) (h : f ≤ t) (ht : t ≤ 9223372036854775807) : 0 ≤ cls t f ∧ cls t f ≤ 63 := by
  obtain ⟨m, hm, a, b⟩ := cls_between hf h ht
  rw [cls_at hf a b (by omega)]
  omega

/-- 2^k times as many candidates: the rank goes up by k. -/
theorem cls_up {t f : Int} {k : Nat} (hf : 1 ≤ f) (h : f ≤ t) (ht : t ≤ 9223372036854775807) (hk : t * 2 ^ k ≤ 9223372036854775807) : cls (t * 2 ^ k) f = cls t f + k := by
  obtain ⟨m, hm, a, b⟩ := cls_between hf h ht
  have p := pow_pos' k
  have a' : 2 ^ (m + k) * f ≤ t * 2 ^ k := by
    have := Int.mul_le_mul_of_nonneg_right a (by omega : (0 : Int) ≤ 2 ^ k)
    rw [Int.pow_add, Int.mul_assoc, Int.mul_comm (2 ^ k) f, ← Int.mul_assoc]
    exact this
  have b' : t * 2 ^ k < 2 ^ (m + k + 1) * f := by
    have := Int.mul_lt_mul_of_pos_right b p
    rw [show m + k + 1 = (m + 1) + k by omega, Int.pow_add, Int.mul_assoc, Int.mul_comm (2 ^ k) f, ← Int.mul_assoc]
    exact this
  rw [cls_at hf a b (by omega), cls_at hf a' b' (exp_lt hf a' hk)]
  omega

/-- The rank is 0 exactly where t is less than twice f. -/
theorem cls_zero {t f : Int} (hf : 1 ≤ f) (h : f ≤ t) (ht : t ≤ 9223372036854775807) : cls t f = 0 ↔ t - f < f := by
  obtain ⟨m, hm, a, b⟩ := cls_between hf h ht
  rw [cls_at hf a b (by omega)]
  constructor
  · intro e
    have : m = 0 := by omega
    subst this
    simp at b
    omega
  · intro e
    rcases Nat.eq_zero_or_pos m with h0 | h0
    · omega
    · obtain ⟨j, rfl⟩ : ∃ j, m = j + 1 := ⟨m - 1, by omega⟩
      have p := pow_pos' j
      have : (1 : Int) * f ≤ 2 ^ j * f := Int.mul_le_mul_of_nonneg_right (by omega) (by omega)
      rw [Int.pow_succ, Int.mul_assoc, Int.mul_comm 2 f, ← Int.mul_assoc] at a
      omega

/-- 2^k times as many found: the rank goes down by k. -/
theorem cls_down {t f : Int} {k : Nat} (hf : 1 ≤ f) (h : f * 2 ^ k ≤ t) (ht : t ≤ 9223372036854775807) : cls t (f * 2 ^ k) = cls t f - k := by
  have p := pow_pos' k
  have hfk : 1 ≤ f * 2 ^ k := by
    have := Int.mul_le_mul_of_nonneg_right hf (by omega : (0 : Int) ≤ 2 ^ k)
    omega
  obtain ⟨m, hm, a, b⟩ := cls_between hfk h ht
  have a' : 2 ^ (m + k) * f ≤ t := by
    rw [Int.pow_add, Int.mul_assoc, Int.mul_comm (2 ^ k) f]
    exact a
  have b' : t < 2 ^ (m + k + 1) * f := by
    rw [show m + k + 1 = (m + 1) + k by omega, Int.pow_add, Int.mul_assoc, Int.mul_comm (2 ^ k) f]
    exact b
  rw [cls_at hfk a b (by omega), cls_at hf a' b' (exp_lt hf a' ht)]
  omega

/-- f found among f times 2^k candidates: rank k. -/
theorem cls_self {f : Int} {k : Nat} (hf : 1 ≤ f) (hk : f * 2 ^ k ≤ 9223372036854775807) : cls (f * 2 ^ k) f = k := by
  have p := pow_pos' k
  refine cls_at hf (by rw [Int.mul_comm]; omega) ?_ (exp_lt hf (by rw [Int.mul_comm]; omega) hk)
  rw [Int.mul_comm]
  refine Int.mul_lt_mul_of_pos_right ?_ (by omega)
  rw [Int.pow_succ]
  omega

end Go.Proofs.Qxb6614299aMods
