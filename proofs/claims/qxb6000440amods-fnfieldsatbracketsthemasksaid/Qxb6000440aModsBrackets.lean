/-
  Plain mathematics: the fields of a match bracket its mask.
-/
import Derived.Test.Qxb6000440aModsFieldsAt
import Derived.Test.Qxb6000440aModsForeign
namespace Go.Proofs.Qxb6000440aMods

/-- Every bit of a is a bit of b. -/
def Sub1 (a b : Nat) : Prop := ∀ i, a.testBit i = true → b.testBit i = true

theorem Sub1.zero {a b : Nat} (h : Sub1 a b) : a &&& (255 - b) = 0 := by
  by_cases hb : b < 256
  · refine Nat.eq_of_testBit_eq fun i => ?_
    rw [Nat.testBit_and, Nat.zero_testBit, show 255 - b = 2 ^ 8 - (b + 1) by omega, Nat.testBit_two_pow_sub_succ (by omega)]
    cases ha : a.testBit i
    · rfl
    · rw [h i ha]; simp
  · rw [show 255 - b = 0 by omega]; simp

/-- Two lists of one length, bit by bit. -/
def LSub (xs ys : List Int) : Prop := ∀ i, i < xs.length → Sub1 (xs.getD i 0).toNat (ys.getD i 0).toNat

theorem LSub.sub {xs ys : List Int} (h : LSub xs ys) : SubB xs ys := fun i hi => (h i hi).zero
theorem LSub.refl (xs : List Int) : LSub xs xs := fun _ _ _ h => h
theorem LSub.trans {xs ys zs : List Int} (hl : xs.length = ys.length) (h : LSub xs ys) (k : LSub ys zs) : LSub xs zs := fun i hi j hj => k i (by omega) j (h i hi j hj)

theorem getD_zip {f : Int → Int → Int} {xs ys : List Int} {i : Nat} (h : xs.length = ys.length) (hi : i < xs.length) : (List.zipWith f xs ys).getD i 0 = f (xs.getD i 0) (ys.getD i 0) := by
  rw [List.getD_eq_getElem?_getD, List.getD_eq_getElem?_getD, List.getD_eq_getElem?_getD, List.getElem?_zipWith, List.getElem?_eq_getElem hi, List.getElem?_eq_getElem (show i < ys.length by omega)]
  rfl

theorem zip_len {f : Int → Int → Int} {xs ys : List Int} (h : xs.length = ys.length) : (List.zipWith f xs ys).length = xs.length := by simp; omega

theorem and_sub {xs ys : List Int} (h : xs.length = ys.length) : LSub (List.zipWith andB xs ys) xs := fun i hi j hj => by
  rw [zip_len h] at hi
  rw [getD_zip h hi, andB, Int.toNat_natCast, Nat.testBit_and] at hj
  simp only [Bool.and_eq_true] at hj
  exact hj.1
theorem or_sub_left {xs ys : List Int} (h : xs.length = ys.length) : LSub xs (List.zipWith orB xs ys) := fun i hi j hj => by
  rw [getD_zip h hi, orB, Int.toNat_natCast, Nat.testBit_or, hj]
  rfl
theorem or_sub_right {xs ys : List Int} (h : xs.length = ys.length) : LSub ys (List.zipWith orB xs ys) := fun i hi j hj => by
  rw [getD_zip h (by omega), orB, Int.toNat_natCast, Nat.testBit_or, hj, Bool.or_true]

theorem joinAnd_sub : ∀ (l : List (List Int)) (xs : List Int), (∀ y ∈ l, y.length = xs.length) → LSub (joinL andB xs l) xs
  | [], xs, _ => LSub.refl xs
  | y :: l, xs, h => by
    have hy := h y List.mem_cons_self
    have e : (List.zipWith andB xs y).length = xs.length := zip_len hy.symm
    have hl : ∀ z ∈ l, z.length = (List.zipWith andB xs y).length := fun z hz => by rw [e]; exact h z (List.mem_cons_of_mem _ hz)
    show LSub (joinL andB (List.zipWith andB xs y) l) xs
    exact LSub.trans (joinL_length andB l _ hl) (joinAnd_sub l _ hl) (and_sub hy.symm)

theorem sub_joinOr : ∀ (l : List (List Int)) (xs : List Int), (∀ y ∈ l, y.length = xs.length) → LSub xs (joinL orB xs l) ∧ ∀ y ∈ l, LSub y (joinL orB xs l)
  | [], xs, _ => ⟨LSub.refl xs, fun y hy => by simp at hy⟩
  | y :: l, xs, h => by
    have hy := h y List.mem_cons_self
    have e : (List.zipWith orB xs y).length = xs.length := zip_len hy.symm
    have hl : ∀ z ∈ l, z.length = (List.zipWith orB xs y).length := fun z hz => by rw [e]; exact h z (List.mem_cons_of_mem _ hz)
    obtain ⟨h1, h2⟩ := sub_joinOr l (List.zipWith orB xs y) hl
    refine ⟨?_, fun z hz => ?_⟩
    · show LSub xs (joinL orB (List.zipWith orB xs y) l)
      exact LSub.trans e.symm (or_sub_left hy.symm) h1
    · show LSub z (joinL orB (List.zipWith orB xs y) l)
      rcases List.mem_cons.1 hz with rfl | hz
      · exact LSub.trans (by rw [e, hy]) (or_sub_right hy.symm) h1
      · exact h2 z hz

theorem all_of_sub {xs ys : List Int} (hx : ∀ x ∈ xs, 0 ≤ x) (hl : xs.length = ys.length) (h : LSub xs ys) (ha : allB 0 ys = true) : allB 0 xs = true := by
  rw [allB_iff] at ha ⊢
  intro x hx'
  obtain ⟨i, hi, rfl⟩ := List.mem_iff_getElem.1 hx'
  have e : xs.getD i 0 = xs[i] := by rw [List.getD_eq_getElem?_getD, List.getElem?_eq_getElem hi]; rfl
  have hy : ys.getD i 0 = 0 := ha _ (getD_mem (by omega))
  have := h i hi
  rw [e, hy] at this
  have hz : xs[i].toNat = 0 := Nat.eq_of_testBit_eq fun j => by
    rw [Nat.zero_testBit]
    cases hb : xs[i].toNat.testBit j
    · rfl
    · have := this j hb; simp at this
  have := hx xs[i] hx'
  omega

theorem joinAnd_nonneg : ∀ (l : List (List Int)) (xs : List Int), (∀ x ∈ xs, 0 ≤ x) → ∀ x ∈ joinL andB xs l, 0 ≤ x
  | [], _, h => h
  | y :: l, xs, _ => joinAnd_nonneg l (List.zipWith andB xs y) fun x hx => by
    obtain ⟨i, hi, rfl⟩ := List.mem_iff_getElem.1 hx
    rw [List.getElem_zipWith, andB]
    omega

theorem mem_selW {off : Int} {len : Nat} {ws : List (Int × List Mt)} {r : Int × List Mt} {m : Mt} (hr : r ∈ ws) (hm : m ∈ r.2) (h : m.off = off ∧ m.msk.length = len) : m.msk ∈ selW off len ws := by
  simp only [selW, List.mem_flatMap]
  refine ⟨r, hr, ?_⟩
  simp only [selM, List.mem_map, List.mem_filter, decide_eq_true_eq]
  exact ⟨m, ⟨hm, h⟩, rfl⟩

/-- One field, or two that differ: the first within the mask, the mask within the last, and every mask that is asked within the last. -/
theorem fields_brackets {off : Int} {msk : List Int} {ws : List (Int × List Mt)} (hr : Rng msk) :
    ∃ sh ak, ((fieldsOf off msk ws = [(off, sh)] ∧ ak = sh) ∨ (fieldsOf off msk ws = [(off, sh), (off, ak)] ∧ sh ≠ ak)) ∧ SubB sh msk ∧ SubB msk ak ∧ allB 0 sh = allB 0 msk ∧ (∀ y ∈ selW off msk.length ws, SubB y ak) ∧ sh.length = msk.length ∧ ak.length = msk.length := by
  have hl := selW_len (off := off) (len := msk.length) (ws := ws)
  have a := joinL_length andB (selW off msk.length ws) msk hl
  have o := joinL_length orB (selW off msk.length ws) msk hl
  have s1 := joinAnd_sub (selW off msk.length ws) msk hl
  obtain ⟨s2, s3⟩ := sub_joinOr (selW off msk.length ws) msk hl
  have nn := joinAnd_nonneg (selW off msk.length ws) msk fun x hx => (hr x hx).1
  refine ⟨if allB 0 (joinL andB msk (selW off msk.length ws)) = true then msk else joinL andB msk (selW off msk.length ws), joinL orB msk (selW off msk.length ws), ?_, ?_, s2.sub, ?_, fun y hy => (s3 y hy).sub, ?_, o⟩
  · by_cases h : joinL orB msk (selW off msk.length ws) = (if allB 0 (joinL andB msk (selW off msk.length ws)) = true then msk else joinL andB msk (selW off msk.length ws))
    · exact .inl ⟨fieldsOf_one rfl rfl h, h⟩
    · exact .inr ⟨fieldsOf_two rfl rfl h, fun e => h e.symm⟩
  · split
    · exact (LSub.refl msk).sub
    · exact s1.sub
  · by_cases h : allB 0 (joinL andB msk (selW off msk.length ws)) = true
    · rw [if_pos h]
    · rw [if_neg h]
      cases hm : allB 0 msk
      · simpa using h
      · exact absurd (all_of_sub nn a s1 hm) h
  · split
    · rfl
    · exact a

end Go.Proofs.Qxb6000440aMods
