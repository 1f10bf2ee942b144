import Derived.Test.Qxb6614299aModsRows
import Derived.Test.Qxb6614299aModsShelf
import Derived.Test.Qxb6614299aModsPlain
import Derived.WalkKit
namespace Go.Proofs.Qxb6614299aMods
open Go.RowKit

theorem ret_bool {a b : Bool} (h : a = b) : Ending.returned (.bool a) = .returned (.bool b) := by rw [h]

/-- costClass, by bits.Len. -/
theorem cost14 (t f : Int) (w : World) (h1 : 1 ≤ f) (h2 : f ≤ t) (h3 : t ≤ 9223372036854775807) :
    Calls Trym.prog 14 #[.int .i64 t, .int .i64 f] w fun e w' => e = .returned (.int .i64 (cls t f)) ∧ w' = w := by
  obtain ⟨q1, q2⟩ := quo_range h1 h2
  have hr := cls_range h1 h2 h3
  unfold cls at hr ⊢
  obtain ⟨r1, r2⟩ := hr
  go_enter Trym.func14, Trym.ntmps14
  go_wp2_with (go_at_call 16; refine (Trym.bits_Len _ _ (by omega) (by omega)).mono ?_; rintro e w' ⟨rfl, hw'⟩; have hw'' := hw'.symm; subst hw'')
  go_ret
  exact ⟨rfl, rfl⟩

/-- ZZcostClass: the rank, under a name of its own. -/
theorem cost7 (t f : Int) (w : World) (h1 : 1 ≤ f) (h2 : f ≤ t) (h3 : t ≤ 9223372036854775807) :
    Calls Trym.prog 7 #[.int .i64 t, .int .i64 f] w fun e w' => ∃ c : Int, e = .returned (.int .i64 c) ∧ Hid (c = cls t f) ∧ 0 ≤ c ∧ c ≤ 63 ∧ w = w' := by
  have hr := cls_range h1 h2 h3
  have HR : Hid (0 ≤ cls t f ∧ cls t f ≤ 63) := hr
  clear hr
  go_enter Trym.func7, Trym.ntmps7
  go_wp2_with (go_at_call 14; refine (cost14 _ _ _ h1 h2 h3).mono ?_; rintro e w' ⟨rfl, hw'⟩; have hw'' := hw'.symm; subst hw'')
  go_ret
  exact ⟨_, rfl, rfl, HR.out.1, HR.out.2, rfl⟩

/-! ### FnCostClassDoublingTriedAddsOne -/

theorem up_k (t f k : Int) (w : World) (h : k < 0 ∨ 30 < k) :
    Calls Trym.prog 3 #[.int .i64 t, .int .i64 f, .int .i64 k] w fun e w' => e = .returned (.bool true) ∧ w' = w := by
  rcases h with h | h
  · go_enter Trym.func3, Trym.ntmps3
    go_wp2
    go_ret
    exact ⟨rfl, rfl⟩
  · have h' : ¬ k < 0 := by omega
    go_enter Trym.func3, Trym.ntmps3
    go_wp2
    go_ret
    exact ⟨rfl, rfl⟩

theorem up_f (t f k : Int) (w : World) (k0 : 0 ≤ k) (k1 : k ≤ 30) (h : f < 1 ∨ t < f) :
    Calls Trym.prog 3 #[.int .i64 t, .int .i64 f, .int .i64 k] w fun e w' => e = .returned (.bool true) ∧ w' = w := by
  by_cases hf : f < 1
  · clear h
    go_enter Trym.func3, Trym.ntmps3
    go_wp2
    go_ret
    exact ⟨rfl, rfl⟩
  · have h' : t < f := by omega
    clear h
    go_enter Trym.func3, Trym.ntmps3
    go_wp2
    go_ret
    exact ⟨rfl, rfl⟩

theorem up_t (t f k : Int) (w : World) (k0 : 0 ≤ k) (k1 : k ≤ 30) (hf : 1 ≤ f) (hft : f ≤ t) (h : 9223372036854775807 / 2 ^ k.toNat < t) :
    Calls Trym.prog 3 #[.int .i64 t, .int .i64 f, .int .i64 k] w fun e w' => e = .returned (.bool true) ∧ w' = w := by
  go_enter Trym.func3, Trym.ntmps3
  go_wp2
  go_ret
  exact ⟨rfl, rfl⟩

theorem up_in (t f k : Int) (w : World) (t2 : t ≤ 9223372036854775807) (k0 : 0 ≤ k) (k1 : k ≤ 30) (hf : 1 ≤ f) (hft : f ≤ t) (h : t ≤ 9223372036854775807 / 2 ^ k.toNat) :
    Calls Trym.prog 3 #[.int .i64 t, .int .i64 f, .int .i64 k] w fun e w' => e = .returned (.bool true) ∧ w' = w := by
  have p := pow_pos' k.toNat
  have m1 : t * 2 ^ k.toNat ≤ 9223372036854775807 := Int.mul_le_of_le_ediv p h
  have m2 : t ≤ t * 2 ^ k.toNat := by
    have := Int.mul_le_mul_of_nonneg_left (show (1 : Int) ≤ 2 ^ k.toNat by omega) (show 0 ≤ t by omega)
    omega
  have U := cls_up (k := k.toNat) hf hft t2 m1
  have Z := cls_zero hf hft t2
  rw [Int.toNat_of_nonneg k0] at U
  have HU : Hid (cls (t * 2 ^ k.toNat) f = cls t f + k) := U
  have HZ : Hid (cls t f = 0 ↔ t - f < f) := Z
  clear U Z
  go_enter Trym.func3, Trym.ntmps3
  go_wp2_with fail
  refine (cost7 _ _ _ hf hft t2).mono ?_
  rintro e w' ⟨c, rfl, hc, c0, c1, rfl⟩
  go_wp2_with fail
  refine (cost7 _ _ _ hf (by omega) m1).mono ?_
  rintro e w' ⟨d, rfl, hd, d0, d1, rfl⟩
  obtain rfl : d = c + k := by rw [hd.out, HU.out, hc.out]
  by_cases ht : t - f < f
  · have c00 : c = 0 := by rw [hc.out]; exact HZ.out.2 ht
    subst c00
    go_wp2
    go_ret
    exact ⟨rfl, rfl⟩
  · have c00 : 0 < c := by
      rcases Int.lt_or_eq_of_le c0 with h | h
      · exact h
      · exact absurd (HZ.out.1 (by rw [← hc.out]; exact h.symm)) ht
    go_wp2
    go_ret
    refine ⟨ret_bool (a := (c == 0) == decide (t - f < f)) ?_, rfl⟩
    rw [decide_eq_false (show ¬ t - f < f by omega), show (c == 0) = false by simp; omega]
    rfl

theorem up_all (t f k : Int) (w : World) (t2 : t ≤ 9223372036854775807) :
    Calls Trym.prog 3 #[.int .i64 t, .int .i64 f, .int .i64 k] w fun e w' => e = .returned (.bool true) ∧ w' = w := by
  by_cases hk : k < 0 ∨ 30 < k
  · exact up_k t f k w hk
  · by_cases hf : f < 1 ∨ t < f
    · exact up_f t f k w (by omega) (by omega) hf
    · by_cases h : t ≤ 9223372036854775807 / 2 ^ k.toNat
      · exact up_in t f k w t2 (by omega) (by omega) (by omega) (by omega) h
      · exact up_t t f k w (by omega) (by omega) (by omega) (by omega) (by omega)

/-! ### FnCostClassMoreFoundLowersClass -/

theorem down_k (t f k : Int) (w : World) (h : k < 0 ∨ 30 < k) :
    Calls Trym.prog 4 #[.int .i64 t, .int .i64 f, .int .i64 k] w fun e w' => e = .returned (.bool true) ∧ w' = w := by
  rcases h with h | h
  · go_enter Trym.func4, Trym.ntmps4
    go_wp2
    go_ret
    exact ⟨rfl, rfl⟩
  · have h' : ¬ k < 0 := by omega
    go_enter Trym.func4, Trym.ntmps4
    go_wp2
    go_ret
    exact ⟨rfl, rfl⟩

theorem down_f (t f k : Int) (w : World) (k0 : 0 ≤ k) (k1 : k ≤ 30) (h : f < 1) :
    Calls Trym.prog 4 #[.int .i64 t, .int .i64 f, .int .i64 k] w fun e w' => e = .returned (.bool true) ∧ w' = w := by
  go_enter Trym.func4, Trym.ntmps4
  go_wp2
  go_ret
  exact ⟨rfl, rfl⟩

theorem down_t (t f k : Int) (w : World) (k0 : 0 ≤ k) (k1 : k ≤ 30) (hf : 1 ≤ f) (h : t / 2 ^ k.toNat < f) :
    Calls Trym.prog 4 #[.int .i64 t, .int .i64 f, .int .i64 k] w fun e w' => e = .returned (.bool true) ∧ w' = w := by
  go_enter Trym.func4, Trym.ntmps4
  go_wp2
  go_ret
  exact ⟨rfl, rfl⟩

theorem down_in (t f k : Int) (w : World) (t2 : t ≤ 9223372036854775807) (k0 : 0 ≤ k) (k1 : k ≤ 30) (hf : 1 ≤ f) (h : f ≤ t / 2 ^ k.toNat) :
    Calls Trym.prog 4 #[.int .i64 t, .int .i64 f, .int .i64 k] w fun e w' => e = .returned (.bool true) ∧ w' = w := by
  have p := pow_pos' k.toNat
  have m0 : f * 2 ^ k.toNat ≤ t := Int.mul_le_of_le_ediv p h
  have m1 : f * 2 ^ k.toNat ≤ 9223372036854775807 := by omega
  have m2 : f ≤ f * 2 ^ k.toNat := by
    have := Int.mul_le_mul_of_nonneg_left (show (1 : Int) ≤ 2 ^ k.toNat by omega) (show 0 ≤ f by omega)
    omega
  have hft : f ≤ t := by omega
  have D := cls_down (k := k.toNat) hf m0 t2
  have E := cls_self (k := k.toNat) hf m1
  rw [Int.toNat_of_nonneg k0] at D E
  have HD : Hid (cls t (f * 2 ^ k.toNat) = cls t f - k) := D
  have HE : Hid (cls (f * 2 ^ k.toNat) f = k) := E
  clear D E
  go_enter Trym.func4, Trym.ntmps4
  go_wp2_with fail
  refine (cost7 _ _ _ (by omega) m0 t2).mono ?_
  rintro e w' ⟨d, rfl, hd, d0, d1, rfl⟩
  go_wp2_with fail
  refine (cost7 _ _ _ hf hft t2).mono ?_
  rintro e w' ⟨c, rfl, hc, c0, c1, rfl⟩
  obtain rfl : d = c - k := by rw [hd.out, HD.out, hc.out]
  go_wp2_with fail
  refine (cost7 _ _ _ hf (by omega) m1).mono ?_
  rintro e w' ⟨g, rfl, hg, g0, g1, rfl⟩
  obtain rfl : g = k := by rw [hg.out, HE.out]
  go_wp2
  go_ret
  exact ⟨rfl, rfl⟩

theorem down_all (t f k : Int) (w : World) (t2 : t ≤ 9223372036854775807) :
    Calls Trym.prog 4 #[.int .i64 t, .int .i64 f, .int .i64 k] w fun e w' => e = .returned (.bool true) ∧ w' = w := by
  by_cases hk : k < 0 ∨ 30 < k
  · exact down_k t f k w hk
  · by_cases hf : f < 1
    · exact down_f t f k w (by omega) (by omega) hf
    · by_cases h : f ≤ t / 2 ^ k.toNat
      · exact down_in t f k w t2 (by omega) (by omega) (by omega) h
      · exact down_t t f k w (by omega) (by omega) (by omega) (by omega)

end Go.Proofs.Qxb6614299aMods
