/-
  Plain mathematics on lists of bytes: no Go, no dump.
-/
namespace Go.Proofs.Qxb6000440aMods

theorem getD_range {xs : List Int} (h : ∀ x ∈ xs, 0 ≤ x ∧ x ≤ 255) (i : Nat) : 0 ≤ xs.getD i 0 ∧ xs.getD i 0 ≤ 255 := by
  rw [List.getD_eq_getElem?_getD]
  by_cases hi : i < xs.length
  · rw [List.getElem?_eq_getElem hi]; exact h _ (List.getElem_mem hi)
  · rw [List.getElem?_eq_none (by omega)]; simp

theorem take_snoc (xs : List Int) (k : Nat) (h : k < xs.length) : xs.take (k + 1) = xs.take k ++ [xs.getD k 0] := by
  rw [List.take_succ_eq_append_getElem h, List.getD_eq_getElem?_getD, List.getElem?_eq_getElem h]; rfl

theorem getD_mem {xs : List Int} {k : Nat} (h : k < xs.length) : xs.getD k 0 ∈ xs := by
  rw [List.getD_eq_getElem?_getD, List.getElem?_eq_getElem h]; exact List.getElem_mem h

/-- Every number of the list is v. -/
def allB (v : Int) (xs : List Int) : Bool := xs.all (fun x => decide (x = v))

theorem allB_iff {v : Int} {xs : List Int} : allB v xs = true ↔ ∀ x ∈ xs, x = v := by simp [allB]

theorem allB_miss {v : Int} {xs : List Int} {k : Nat} (h : k < xs.length) (hne : xs.getD k 0 ≠ v) : allB v xs = false := by
  rw [Bool.eq_false_iff]
  intro h'
  exact hne (allB_iff.1 h' _ (getD_mem h))

theorem allB_hit {v : Int} {xs : List Int} {k : Nat} (h : k < xs.length) (ha : allB v (xs.take k) = true) (he : xs.getD k 0 = v) : allB v (xs.take (k + 1)) = true := by
  rw [take_snoc xs k h, allB, List.all_append]
  simp only [List.all_cons, List.all_nil, Bool.and_true, Bool.and_eq_true, decide_eq_true_eq]
  exact ⟨ha, he⟩

/-- Byte strings in lexicographic order: -1, 0 or 1. -/
def cmpB : List Int → List Int → Int
  | [], [] => 0
  | [], _ :: _ => -1
  | _ :: _, [] => 1
  | x :: xs, y :: ys => if x < y then -1 else if y < x then 1 else cmpB xs ys

theorem drop_get {xs : List Int} {k : Nat} (h : k < xs.length) : xs.drop k = xs.getD k 0 :: xs.drop (k + 1) := by
  rw [List.drop_eq_getElem_cons h, List.getD_eq_getElem?_getD, List.getElem?_eq_getElem h]; rfl

theorem cmpB_lt {xs ys : List Int} {k : Nat} (h1 : k < xs.length) (h2 : k < ys.length) (hc : cmpB xs ys = cmpB (xs.drop k) (ys.drop k)) (h : xs.getD k 0 < ys.getD k 0) : cmpB xs ys = -1 := by
  rw [hc, drop_get h1, drop_get h2, cmpB, if_pos h]

theorem cmpB_gt {xs ys : List Int} {k : Nat} (h1 : k < xs.length) (h2 : k < ys.length) (hc : cmpB xs ys = cmpB (xs.drop k) (ys.drop k)) (h : ys.getD k 0 < xs.getD k 0) : cmpB xs ys = 1 := by
  rw [hc, drop_get h1, drop_get h2, cmpB, if_neg (by omega), if_pos h]

theorem cmpB_on {xs ys : List Int} {k : Nat} (h1 : k < xs.length) (h2 : k < ys.length) (hc : cmpB xs ys = cmpB (xs.drop k) (ys.drop k)) (h : ¬ ys.getD k 0 < xs.getD k 0) (h' : ¬ xs.getD k 0 < ys.getD k 0) :
    cmpB xs ys = cmpB (xs.drop (k + 1)) (ys.drop (k + 1)) := by
  rw [hc, drop_get h1, drop_get h2, cmpB, if_neg h', if_neg h]

theorem cmpB_end {xs ys : List Int} {k : Nat} (h1 : xs.length ≤ k) (h2 : ys.length ≤ k) (hc : cmpB xs ys = cmpB (xs.drop k) (ys.drop k)) : cmpB xs ys = 0 := by
  rw [hc, List.drop_of_length_le h1, List.drop_of_length_le h2]; rfl

theorem take_eq_on {xs ys : List Int} {k : Nat} (h1 : k < xs.length) (h2 : k < ys.length) (hc : xs.take k = ys.take k) (h : xs.getD k 0 = ys.getD k 0) : xs.take (k + 1) = ys.take (k + 1) := by
  rw [take_snoc xs k h1, take_snoc ys k h2, hc, h]

theorem ne_at {xs ys : List Int} {k : Nat} (h : xs.getD k 0 ≠ ys.getD k 0) : decide (xs = ys) = false := by
  rw [decide_eq_false_iff_not]
  intro e
  exact h (by rw [e])

theorem eq_end {xs ys : List Int} {k : Nat} (h1 : xs.length ≤ k) (h2 : ys.length ≤ k) (hc : xs.take k = ys.take k) : decide (xs = ys) = true := by
  rw [decide_eq_true_iff]
  rwa [List.take_of_length_le h1, List.take_of_length_le h2] at hc

/-- The first k numbers of xs, v's behind them. -/
def fillV (v : Int) (xs : List Int) (k : Nat) : List Int := xs.take k ++ List.replicate (xs.length - k) v

theorem fillV_zero (v : Int) (xs : List Int) : fillV v xs 0 = List.replicate xs.length v := by simp [fillV]

theorem fillV_all (v : Int) (xs : List Int) (k : Nat) (h : xs.length ≤ k) : fillV v xs k = xs := by
  rw [fillV, List.take_of_length_le h, show xs.length - k = 0 by omega]; simp

theorem fillV_length (v : Int) (xs : List Int) (k : Nat) (h : k ≤ xs.length) : (fillV v xs k).length = xs.length := by
  simp [fillV]; omega

theorem fillV_set (v : Int) (xs : List Int) (k : Nat) (h : k < xs.length) : (fillV v xs k).set k (xs.getD k 0) = fillV v xs (k + 1) := by
  have e : xs.length - k = (xs.length - (k + 1)) + 1 := by omega
  rw [fillV, fillV, take_snoc xs k h, e, List.replicate_succ, List.set_append]
  rw [if_neg (by simp; omega)]
  rw [List.length_take, Nat.min_eq_left (by omega), Nat.sub_self]
  simp

theorem fillV_get (v : Int) (xs : List Int) (k : Nat) (h : k < xs.length) : (fillV v xs (k + 1)).getD k 0 = xs.getD k 0 := by
  rw [fillV, List.getD_eq_getElem?_getD, List.getElem?_append_left (by simp; omega), List.getElem?_take, if_pos (by omega), List.getD_eq_getElem?_getD]

theorem fillV_put (v y : Int) (xs : List Int) (k : Nat) (h : k < xs.length) : (fillV v xs (k + 1)).set k y = xs.take k ++ y :: List.replicate (xs.length - (k + 1)) v := by
  rw [fillV, take_snoc xs k h, List.append_assoc, List.set_append, if_neg (by simp; omega)]
  rw [List.length_take, Nat.min_eq_left (by omega), Nat.sub_self]
  simp

theorem fillV_back (v : Int) (xs : List Int) (k : Nat) (h : k < xs.length) : (fillV v xs (k + 1)).set k v = fillV v xs k := by
  have e : xs.length - k = (xs.length - (k + 1)) + 1 := by omega
  rw [fillV_put v v xs k h, fillV, e, List.replicate_succ]

theorem drop_back {v : Int} {xs : List Int} {k : Nat} (h : k < xs.length) (hd : xs.drop (k + 1) = List.replicate (xs.length - (k + 1)) v) (hx : xs.getD k 0 = v) : xs.drop k = List.replicate (xs.length - k) v := by
  have e : xs.length - k = (xs.length - (k + 1)) + 1 := by omega
  rw [drop_get h, hd, hx, e, List.replicate_succ]

/-- ys is xs plus one, as numbers of one length: the last number that is not 255 is raised, what stands behind it turns from 255 to 0. -/
def Suc (xs ys : List Int) : Prop := ∃ a x m, xs = a ++ x :: List.replicate m 255 ∧ ys = a ++ (x + 1) :: List.replicate m 0 ∧ 0 ≤ x ∧ x < 255

theorem Suc.length {xs ys : List Int} (h : Suc xs ys) : ys.length = xs.length := by
  obtain ⟨a, x, m, rfl, rfl, _, _⟩ := h
  simp

theorem suc_at {xs : List Int} {k : Nat} (h : k < xs.length) (hd : xs.drop (k + 1) = List.replicate (xs.length - (k + 1)) 255) (h0 : 0 ≤ xs.getD k 0) (h1 : xs.getD k 0 < 255) :
    Suc xs (xs.take k ++ (xs.getD k 0 + 1) :: List.replicate (xs.length - (k + 1)) 0) :=
  ⟨xs.take k, xs.getD k 0, xs.length - (k + 1), by
    rw [← hd, ← drop_get h, List.take_append_drop], rfl, h0, h1⟩

theorem pred_at {xs : List Int} {k : Nat} (h : k < xs.length) (hd : xs.drop (k + 1) = List.replicate (xs.length - (k + 1)) 0) (h0 : 0 < xs.getD k 0) (h1 : xs.getD k 0 ≤ 255) :
    Suc (xs.take k ++ (xs.getD k 0 - 1) :: List.replicate (xs.length - (k + 1)) 255) xs :=
  ⟨xs.take k, xs.getD k 0 - 1, xs.length - (k + 1), rfl, by
    rw [← hd, show xs.getD k 0 - 1 + 1 = xs.getD k 0 by omega, ← drop_get h, List.take_append_drop], by omega, by omega⟩

theorem all_of_drop {v : Int} {xs : List Int} (h : xs.drop 0 = List.replicate (xs.length - 0) v) : allB v xs = true := by
  rw [allB_iff]
  intro x hx
  rw [List.drop_zero] at h
  rw [h] at hx
  exact List.eq_of_mem_replicate hx

theorem not_all_of_suc {xs ys : List Int} (h : Suc xs ys) : allB 255 xs = false := by
  obtain ⟨a, x, m, rfl, rfl, _, _⟩ := h
  rw [Bool.eq_false_iff]
  intro h'
  have := allB_iff.1 h' x (by simp)
  omega

theorem not_zero_of_suc {xs ys : List Int} (h : Suc xs ys) : allB 0 ys = false := by
  obtain ⟨a, x, m, rfl, rfl, _, _⟩ := h
  rw [Bool.eq_false_iff]
  intro h'
  have := allB_iff.1 h' (x + 1) (by simp)
  omega

theorem Suc.range {xs ys : List Int} (h : Suc xs ys) (hr : ∀ x ∈ xs, 0 ≤ x ∧ x ≤ 255) : ∀ y ∈ ys, 0 ≤ y ∧ y ≤ 255 := by
  obtain ⟨a, x, m, rfl, rfl, _, _⟩ := h
  intro y hy
  rcases List.mem_append.1 hy with h | h
  · exact hr y (List.mem_append_left _ h)
  · rcases List.mem_cons.1 h with h | h
    · omega
    · rw [List.eq_of_mem_replicate h]; omega

theorem Suc.range' {xs ys : List Int} (h : Suc xs ys) (hr : ∀ y ∈ ys, 0 ≤ y ∧ y ≤ 255) : ∀ x ∈ xs, 0 ≤ x ∧ x ≤ 255 := by
  obtain ⟨a, x, m, rfl, rfl, _, _⟩ := h
  intro y hy
  rcases List.mem_append.1 hy with h | h
  · exact hr y (List.mem_append_left _ h)
  · rcases List.mem_cons.1 h with h | h
    · omega
    · rw [List.eq_of_mem_replicate h]; omega

end Go.Proofs.Qxb6000440aMods
