/-
  Plain mathematics: a match's own mask, and matches elsewhere, change no field.
-/
import Derived.Test.Qxb6000440aModsMasks
namespace Go.Proofs.Qxb6000440aMods

theorem andB_self {x : Int} (h : 0 ≤ x) : andB x x = x := by unfold andB; rw [Nat.and_self]; omega
theorem orB_self {x : Int} (h : 0 ≤ x) : orB x x = x := by unfold orB; rw [Nat.or_self]; omega
theorem andB_right (x y z : Int) : andB (andB x y) z = andB (andB x z) y := by
  unfold andB; rw [Int.toNat_natCast, Int.toNat_natCast, Nat.and_assoc, Nat.and_assoc, Nat.and_comm y.toNat]
theorem orB_right (x y z : Int) : orB (orB x y) z = orB (orB x z) y := by
  unfold orB; rw [Int.toNat_natCast, Int.toNat_natCast, Nat.or_assoc, Nat.or_assoc, Nat.or_comm y.toNat]

theorem zip_self {f : Int → Int → Int} (hf : ∀ x, 0 ≤ x → f x x = x) : ∀ {xs : List Int}, Rng xs → List.zipWith f xs xs = xs
  | [], _ => rfl
  | x :: xs, h => by
    rw [List.zipWith_cons_cons, hf x (h x List.mem_cons_self).1, zip_self hf fun a ha => h a (List.mem_cons_of_mem _ ha)]

theorem zip_right {f : Int → Int → Int} (hf : ∀ x y z, f (f x y) z = f (f x z) y) : ∀ (xs ys zs : List Int), List.zipWith f (List.zipWith f xs ys) zs = List.zipWith f (List.zipWith f xs zs) ys
  | [], _, _ => by simp
  | _ :: _, [], [] => by simp
  | _ :: _, [], _ :: _ => by simp
  | _ :: _, _ :: _, [] => by simp
  | x :: xs, y :: ys, z :: zs => by simp only [List.zipWith_cons_cons]; rw [hf, zip_right hf xs ys zs]

/-- What is joined with msk stays as it is when msk is joined once more. -/
theorem join_again {f : Int → Int → Int} (h1 : ∀ x, 0 ≤ x → f x x = x) (h2 : ∀ x y z, f (f x y) z = f (f x z) y) {msk : List Int} (hr : Rng msk) : ∀ (l : List (List Int)) (xs : List Int), List.zipWith f xs msk = xs → List.zipWith f (joinL f xs l) msk = joinL f xs l
  | [], _, h => h
  | y :: l, xs, h => by
    show List.zipWith f (joinL f (List.zipWith f xs y) l) msk = joinL f (List.zipWith f xs y) l
    refine join_again h1 h2 hr l _ ?_
    rw [zip_right h2, h]

theorem join_more {f : Int → Int → Int} (h1 : ∀ x, 0 ≤ x → f x x = x) (h2 : ∀ x y z, f (f x y) z = f (f x z) y) {msk : List Int} (hr : Rng msk) (l : List (List Int)) : joinL f msk (l ++ [msk]) = joinL f msk l := by
  rw [joinL_append]
  exact join_again h1 h2 hr l msk (zip_self h1 hr)

theorem selW_more {off : Int} {msk vl : List Int} {other : Mt} {s : Int} (h : ¬ (other.off = off ∧ other.msk.length = msk.length)) (ws : List (Int × List Mt)) : selW off msk.length (ws ++ [(s, [⟨off, vl, msk⟩, other])]) = selW off msk.length ws ++ [msk] := by
  rw [selW, List.flatMap_append, ← selW]
  congr 1
  have e : decide (other.off = off ∧ other.msk.length = msk.length) = false := decide_eq_false h
  simp only [List.flatMap_cons, List.flatMap_nil, List.append_nil, selM, List.filter_cons, e, List.filter_nil]
  simp

/-- A route that holds the match itself and one elsewhere changes no field. -/
theorem fields_more {off : Int} {msk vl : List Int} {other : Mt} {s : Int} (hr : Rng msk) (h : ¬ (other.off = off ∧ other.msk.length = msk.length)) (ws : List (Int × List Mt)) : fieldsOf off msk (ws ++ [(s, [⟨off, vl, msk⟩, other])]) = fieldsOf off msk ws := by
  simp only [fieldsOf]
  rw [selW_more h, join_more (f := andB) (fun _ => andB_self) andB_right hr, join_more (f := orB) (fun _ => orB_self) orB_right hr]

/-- That route alone: one field, the match's own. -/
theorem fields_alone {off : Int} {msk vl : List Int} {other : Mt} {s : Int} (hr : Rng msk) (h : ¬ (other.off = off ∧ other.msk.length = msk.length)) : fieldsOf off msk [(s, [⟨off, vl, msk⟩, other])] = [(off, msk)] := by
  have e := fields_more (vl := vl) (s := s) hr h []
  rw [List.nil_append] at e
  rw [e]
  simp only [fieldsOf, selW, List.flatMap_nil, joinL, List.foldl_nil, ite_self, if_true]

theorem fields_len {off : Int} {msk : List Int} {ws : List (Int × List Mt)} : (fieldsOf off msk ws).length ≤ 2 ∧ ∀ f ∈ fieldsOf off msk ws, f.2.length = msk.length := by
  have a := joinL_length andB (selW off msk.length ws) msk selW_len
  have o := joinL_length orB (selW off msk.length ws) msk selW_len
  simp only [fieldsOf]
  have e : (if allB 0 (joinL andB msk (selW off msk.length ws)) = true then msk else joinL andB msk (selW off msk.length ws)).length = msk.length := by split <;> first | rfl | exact a
  obtain ⟨sh, hs⟩ : ∃ l, l = if allB 0 (joinL andB msk (selW off msk.length ws)) = true then msk else joinL andB msk (selW off msk.length ws) := ⟨_, rfl⟩
  rw [← hs] at e ⊢
  by_cases h : joinL orB msk (selW off msk.length ws) = sh
  · rw [if_pos h]
    refine ⟨by simp, fun f hf => ?_⟩
    simp at hf
    subst hf
    exact e
  · rw [if_neg h]
    refine ⟨by simp, fun f hf => ?_⟩
    simp at hf
    rcases hf with rfl | rfl
    · exact e
    · exact o

end Go.Proofs.Qxb6000440aMods
