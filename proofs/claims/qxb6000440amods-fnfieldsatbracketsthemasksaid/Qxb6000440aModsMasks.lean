/-
  Plain mathematics: masks joined byte by byte; the fields of a match over a walk.
-/
import Derived.Test.Qxb6000440aModsPlain
import Derived.Test.Qxb6000440aModsData
namespace Go.Proofs.Qxb6000440aMods

def andB (x y : Int) : Int := ((x.toNat &&& y.toNat : Nat) : Int)
def orB (x y : Int) : Int := ((x.toNat ||| y.toNat : Nat) : Int)

/-- Every number is a byte. -/
def Rng (xs : List Int) : Prop := ∀ x ∈ xs, 0 ≤ x ∧ x ≤ 255

theorem andB_rng {x y : Int} (hx : 0 ≤ x ∧ x ≤ 255) : 0 ≤ andB x y ∧ andB x y ≤ 255 := by
  unfold andB
  have : x.toNat &&& y.toNat ≤ x.toNat := Nat.and_le_left
  omega
theorem orB_rng {x y : Int} (hx : 0 ≤ x ∧ x ≤ 255) (hy : 0 ≤ y ∧ y ≤ 255) : 0 ≤ orB x y ∧ orB x y ≤ 255 := by
  unfold orB
  have : x.toNat ||| y.toNat < 2 ^ 8 := Nat.or_lt_two_pow (by omega) (by omega)
  omega

theorem zip_rng {f : Int → Int → Int} (hf : ∀ x y, (0 ≤ x ∧ x ≤ 255) → (0 ≤ y ∧ y ≤ 255) → 0 ≤ f x y ∧ f x y ≤ 255) : ∀ {xs ys : List Int}, Rng xs → Rng ys → Rng (List.zipWith f xs ys)
  | [], _, _, _ => fun x hx => by simp at hx
  | _ :: _, [], _, _ => fun x hx => by simp at hx
  | x :: xs, y :: ys, hx, hy => fun z hz => by
    rw [List.zipWith_cons_cons] at hz
    rcases List.mem_cons.1 hz with h | h
    · rw [h]; exact hf x y (hx x List.mem_cons_self) (hy y List.mem_cons_self)
    · exact zip_rng hf (fun a ha => hx a (List.mem_cons_of_mem _ ha)) (fun a ha => hy a (List.mem_cons_of_mem _ ha)) z h

/-- The first i numbers joined, the rest as they were. -/
def mixL (f : Int → Int → Int) (xs ys : List Int) (i : Nat) : List Int := List.zipWith f (xs.take i) (ys.take i) ++ xs.drop i

theorem mixL_zero (f : Int → Int → Int) (xs ys : List Int) : mixL f xs ys 0 = xs := by simp [mixL]
theorem mixL_all (f : Int → Int → Int) (xs ys : List Int) (i : Nat) (h1 : xs.length ≤ i) (h2 : ys.length ≤ i) : mixL f xs ys i = List.zipWith f xs ys := by
  rw [mixL, List.take_of_length_le h1, List.take_of_length_le h2, List.drop_of_length_le h1, List.append_nil]

theorem mixL_get (f : Int → Int → Int) (xs ys : List Int) (i : Nat) (h1 : i < xs.length) (h2 : i < ys.length) : (mixL f xs ys i).getD i 0 = xs.getD i 0 := by
  rw [mixL, List.getD_eq_getElem?_getD, List.getElem?_append_right (by simp; omega), List.getElem?_drop, List.getD_eq_getElem?_getD]
  congr 2
  simp
  omega

theorem mixL_length (f : Int → Int → Int) (xs ys : List Int) (i : Nat) (h : xs.length = ys.length) : (mixL f xs ys i).length = xs.length := by
  simp [mixL]; omega

theorem mixL_set (f : Int → Int → Int) (xs ys : List Int) (i : Nat) (h1 : i < xs.length) (h2 : i < ys.length) : (mixL f xs ys i).set i (f (xs.getD i 0) (ys.getD i 0)) = mixL f xs ys (i + 1) := by
  have e : (List.zipWith f (xs.take i) (ys.take i)).length = i := by simp; omega
  rw [mixL, mixL, take_snoc xs i h1, take_snoc ys i h2, List.zipWith_append (by simp; omega), List.set_append, if_neg (by omega), e, Nat.sub_self, drop_get h1]
  simp

/-- The masks of the matches at an offset and of a length. -/
def selM (off : Int) (len : Nat) (ms : List Mt) : List (List Int) := (ms.filter fun m => decide (m.off = off ∧ m.msk.length = len)).map (·.msk)
def selW (off : Int) (len : Nat) (ws : List (Int × List Mt)) : List (List Int) := ws.flatMap fun r => selM off len r.2

/-- A mask joined with all of a list. -/
def joinL (f : Int → Int → Int) (xs : List Int) (l : List (List Int)) : List Int := l.foldl (List.zipWith f) xs

theorem selM_snoc_in {off : Int} {len : Nat} {ms : List Mt} {j : Nat} {m : Mt} (hm : ms[j]? = some m) (h : m.off = off ∧ m.msk.length = len) : selM off len (ms.take (j + 1)) = selM off len (ms.take j) ++ [m.msk] := by
  rw [selM, selM, List.take_add_one, hm, List.filter_append, List.map_append]
  simp [h]
theorem selM_snoc_out {off : Int} {len : Nat} {ms : List Mt} {j : Nat} {m : Mt} (hm : ms[j]? = some m) (h : ¬ (m.off = off ∧ m.msk.length = len)) : selM off len (ms.take (j + 1)) = selM off len (ms.take j) := by
  rw [selM, selM, List.take_add_one, hm, List.filter_append, List.map_append]
  simp [List.filter_cons]
  exact fun h1 h2 => h ⟨h1, h2⟩
theorem selW_snoc {off : Int} {len : Nat} {ws : List (Int × List Mt)} {k : Nat} {s : Int} {ms : List Mt} (hr : ws[k]? = some (s, ms)) : selW off len (ws.take (k + 1)) = selW off len (ws.take k) ++ selM off len ms := by
  rw [selW, selW, List.take_add_one, hr, List.flatMap_append]
  simp

theorem joinL_append (f : Int → Int → Int) (xs : List Int) (a b : List (List Int)) : joinL f xs (a ++ b) = joinL f (joinL f xs a) b := by simp [joinL]

theorem selM_len {off : Int} {len : Nat} {ms : List Mt} : ∀ l ∈ selM off len ms, l.length = len := by
  intro l hl
  simp only [selM, List.mem_map, List.mem_filter, decide_eq_true_eq] at hl
  obtain ⟨m, ⟨_, _, h⟩, rfl⟩ := hl
  exact h
theorem selW_len {off : Int} {len : Nat} {ws : List (Int × List Mt)} : ∀ l ∈ selW off len ws, l.length = len := by
  intro l hl
  simp only [selW, List.mem_flatMap] at hl
  obtain ⟨r, _, h⟩ := hl
  exact selM_len l h

theorem joinL_length (f : Int → Int → Int) : ∀ (l : List (List Int)) (xs : List Int), (∀ y ∈ l, y.length = xs.length) → (joinL f xs l).length = xs.length
  | [], _, _ => rfl
  | y :: l, xs, h => by
    have hy := h y List.mem_cons_self
    have e : (List.zipWith f xs y).length = xs.length := by simp; omega
    show (joinL f (List.zipWith f xs y) l).length = _
    rw [joinL_length f l _ (fun z hz => by rw [e]; exact h z (List.mem_cons_of_mem _ hz)), e]

/-- The fields of the match (off, mask) over a walk: in the bits that all ask, or the mask's own where there is none; and, where they differ, in the bits that any asks. -/
def fieldsOf (off : Int) (msk : List Int) (ws : List (Int × List Mt)) : List (Int × List Int) :=
  let l := selW off msk.length ws
  let sh := joinL andB msk l
  let ak := joinL orB msk l
  let sh' := if allB 0 sh = true then msk else sh
  if ak = sh' then [(off, sh')] else [(off, sh'), (off, ak)]

end Go.Proofs.Qxb6000440aMods
