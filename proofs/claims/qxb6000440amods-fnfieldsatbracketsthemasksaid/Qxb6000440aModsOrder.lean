/-
  Plain mathematics: byte strings of one length as numbers; 'Suc' is plus one; 'cmpB' is the numbers' order.
-/
import Derived.Test.Qxb6000440aModsPlain
namespace Go.Proofs.Qxb6000440aMods

/-- 256 to the n. -/
def pw : Nat → Int
  | 0 => 1
  | n + 1 => 256 * pw n

theorem pw_pos : ∀ n, 0 < pw n
  | 0 => by decide
  | n + 1 => by have := pw_pos n; rw [pw]; omega

/-- The number that a byte string writes, the highest byte first. -/
def val : List Int → Int
  | [] => 0
  | x :: r => x * pw r.length + val r

theorem val_range : ∀ xs : List Int, (∀ x ∈ xs, 0 ≤ x ∧ x ≤ 255) → 0 ≤ val xs ∧ val xs < pw xs.length
  | [], _ => by decide
  | x :: r, h => by
    have hr := val_range r fun y hy => h y (List.mem_cons_of_mem _ hy)
    have hx := h x List.mem_cons_self
    have hp := pw_pos r.length
    have h1 : 0 ≤ x * pw r.length := Int.mul_nonneg hx.1 (by omega)
    have h2 : x * pw r.length ≤ 255 * pw r.length := Int.mul_le_mul_of_nonneg_right hx.2 (by omega)
    simp only [val, List.length_cons, pw]
    omega

theorem lt_of_byte {x y p u v : Int} (h : x < y) (hp : 0 < p) (hu : u < p) (hv : 0 ≤ v) : x * p + u < y * p + v := by
  have : (x + 1) * p ≤ y * p := Int.mul_le_mul_of_nonneg_right (by omega) (by omega)
  rw [Int.add_mul, Int.one_mul] at this
  omega

/-- The order of byte strings of one length is the order of their numbers. -/
theorem cmpB_val : ∀ (xs ys : List Int), xs.length = ys.length → (∀ x ∈ xs, 0 ≤ x ∧ x ≤ 255) → (∀ y ∈ ys, 0 ≤ y ∧ y ≤ 255) →
    (cmpB xs ys < 0 ↔ val xs < val ys) ∧ (0 < cmpB xs ys ↔ val ys < val xs)
  | [], [], _, _, _ => by decide
  | [], _ :: _, h, _, _ => by simp at h
  | _ :: _, [], h, _, _ => by simp at h
  | x :: xs, y :: ys, h, hx, hy => by
    have hl : xs.length = ys.length := by simpa using h
    have hx' := fun z hz => hx z (List.mem_cons_of_mem _ hz)
    have hy' := fun z hz => hy z (List.mem_cons_of_mem _ hz)
    have ih := cmpB_val xs ys hl hx' hy'
    have rx := val_range xs hx'
    have ry := val_range ys hy'
    rw [cmpB, val, val, ← hl]
    rw [← hl] at ry
    have hp := pw_pos xs.length
    by_cases h1 : x < y
    · rw [if_pos h1]
      have := lt_of_byte h1 hp rx.2 ry.1
      omega
    · rw [if_neg h1]
      by_cases h2 : y < x
      · rw [if_pos h2]
        have := lt_of_byte h2 hp ry.2 rx.1
        omega
      · rw [if_neg h2]
        have : x = y := by omega
        subst this
        omega

theorem val_app : ∀ (a : List Int) (u v : List Int), u.length = v.length → val (a ++ u) - val u = val (a ++ v) - val v
  | [], u, v, _ => by simp
  | x :: a, u, v, h => by
    have ih := val_app a u v h
    simp only [List.cons_append, val, List.length_append, h]
    omega

theorem val_rep255 : ∀ m, val (List.replicate m 255) = pw m - 1
  | 0 => by decide
  | m + 1 => by
    rw [List.replicate_succ, val, val_rep255 m, List.length_replicate, pw]
    omega

theorem val_rep0 : ∀ m, val (List.replicate m 0) = 0
  | 0 => rfl
  | m + 1 => by rw [List.replicate_succ, val, val_rep0 m]; omega

theorem Suc.val {xs ys : List Int} (h : Suc xs ys) : val ys = val xs + 1 := by
  obtain ⟨a, x, m, rfl, rfl, _, _⟩ := h
  have e := val_app a (x :: List.replicate m 255) ((x + 1) :: List.replicate m 0) (by simp)
  rw [Go.Proofs.Qxb6000440aMods.val, Go.Proofs.Qxb6000440aMods.val, val_rep255, val_rep0, List.length_replicate, List.length_replicate, Int.add_mul] at e
  omega

/-- Byte strings of one length that write one number are one. -/
theorem val_inj : ∀ (xs ys : List Int), xs.length = ys.length → (∀ x ∈ xs, 0 ≤ x ∧ x ≤ 255) → (∀ y ∈ ys, 0 ≤ y ∧ y ≤ 255) → val xs = val ys → xs = ys
  | [], [], _, _, _, _ => rfl
  | [], _ :: _, h, _, _, _ => by simp at h
  | _ :: _, [], h, _, _, _ => by simp at h
  | x :: xs, y :: ys, h, hx, hy, e => by
    have hl : xs.length = ys.length := by simpa using h
    have hx' := fun z hz => hx z (List.mem_cons_of_mem _ hz)
    have hy' := fun z hz => hy z (List.mem_cons_of_mem _ hz)
    have rx := val_range xs hx'
    have ry := val_range ys hy'
    rw [val, val, ← hl] at e
    rw [← hl] at ry
    have hp := pw_pos xs.length
    have exy : x = y := by
      by_cases h1 : x < y
      · have := lt_of_byte h1 hp rx.2 ry.1
        omega
      · by_cases h2 : y < x
        · have := lt_of_byte h2 hp ry.2 rx.1
          omega
        · omega
    subst exy
    rw [val_inj xs ys hl hx' hy' (by omega)]

/-- All 255: no byte string of that length is greater. -/
theorem val_all255 {xs : List Int} (h : allB 255 xs = true) : Go.Proofs.Qxb6000440aMods.val xs = pw xs.length - 1 := by
  have e : xs = List.replicate xs.length 255 := List.eq_replicate_iff.2 ⟨rfl, allB_iff.1 h⟩
  rw [e, val_rep255, List.length_replicate]

end Go.Proofs.Qxb6000440aMods
