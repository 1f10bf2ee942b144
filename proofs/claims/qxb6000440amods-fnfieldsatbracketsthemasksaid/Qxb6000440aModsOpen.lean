/-
  What the row's reading of the arguments gives: a match, a slice of matches, a walk.
-/
import Derived.Test.Qxb6000440aModsData
import Derived.ProofKit
import Derived.Deep.Slices
import Derived.Deep.Strs
import Derived.Lib.SmallJoins
namespace Go.Proofs.Qxb6000440aMods
open Go.RowKit Go.ChangeShapes Go.WideShapes Go.Deep

theorem Trym.cells3 : Trym.prog.cellsOf 3 = 1 := by kernel_rfl
theorem Trym.cells22 : Trym.prog.cellsOf 22 = 1 := by kernel_rfl
theorem Trym.cells31 : Trym.prog.cellsOf 31 = 3 := by kernel_rfl
theorem Trym.cells49 : Trym.prog.cellsOf 49 = 1 := by kernel_rfl
theorem Trym.cells51 : Trym.prog.cellsOf 51 = 2 := by kernel_rfl

section
variable {H : Type} {enc : TypeId × Value → H} {W : World} {base : Nat} {spare : Nat → Bool} {held : Bool}

/-- A slice of bytes. -/
theorem open_bytes {fuel : Nat} {cs : List Value} {x : DataW H × List MemPlace} (h : DataW.trod enc Trym.prog W base spare held fuel 22 cs = some x) : ∃ a l c xs, cs = [.slice a l c] ∧ BSl W a l c xs := by
  rcases open_ints Trym.underlying22 Trym.underlying5 Trym.cells5 h with ⟨hcs, _⟩ | ⟨a, len, cap, zs, hcs, _, hl, hm, hz, _, hcell, hwz⟩
  · exact ⟨none, 0, 0, [], hcs, ⟨rfl, ⟨fun _ => rfl, fun x hx => (by simp at hx), fun h => absurd rfl h⟩, fun _ => rfl⟩⟩
  · have hlz : len ≤ zs.length := by rw [hz]; split <;> omega
    refine ⟨some a, len, cap, zs.take len, hcs, ?_⟩
    have hlen : (zs.take len).length = len := by simp; omega
    refine ⟨hlen.symm, ⟨fun h => (by cases h), fun x hx => bounds_u8 (hwz x (List.mem_of_mem_take hx)), fun hne => ?_⟩, fun h => (by cases h)⟩
    have h0 : 0 < len := by
      rcases Nat.eq_zero_or_pos len with h | h
      · subst h; simp at hne
      · exact h
    obtain ⟨b, o, s⟩ := a
    obtain rfl : s = none := by simpa [Addr.add] using World.cell?_spot (hcell 0 (by omega))
    refine ⟨b, o, rfl, fun i hi => ?_⟩
    rw [hlen] at hi
    rw [← Go.WideShapes.add_plain, hcell i (by omega)]
    rw [List.getD_eq_getElem?_getD, List.getD_eq_getElem?_getD, List.getElem?_take, if_pos hi]

/-- A match. -/
theorem open_match {fuel : Nat} {cs : List Value} {x : DataW H × List MemPlace} (h : DataW.trod enc Trym.prog W base spare held fuel 31 cs = some x) :
    ∃ (m : Mt) (p1 : Option Addr) (n1 c1 : Nat) (p2 : Option Addr) (n2 c2 : Nat), cs = [.int .i64 m.off, .slice p1 n1 c1, .slice p2 n2 c2] ∧ BSl W p1 n1 c1 m.vl ∧ BSl W p2 n2 c2 m.msk := by
  obtain ⟨y0, y1, y2, n, _, hl, h0, h1, h2⟩ := trod_struct3 Trym.underlying31 h
  rw [Trym.cells31] at hl
  match cs, hl with
  | [v0, v1, v2], _ =>
    have k0 : DataW.trod enc Trym.prog W base spare held n 3 [v0] = some y0 := h0
    have k1 : DataW.trod enc Trym.prog W base spare held n 22 [v1] = some y1 := h1
    have k2 : DataW.trod enc Trym.prog W base spare held n 22 [v2] = some y2 := h2
    obtain ⟨off, e0, _, _⟩ := DataW.trod_int Trym.underlying3 k0
    obtain ⟨a1, l1, c1, xs, e1, b1⟩ := open_bytes k1
    obtain ⟨a2, l2, c2, ys, e2, b2⟩ := open_bytes k2
    simp only [List.cons.injEq, and_true] at e0 e1 e2
    subst e0 e1 e2
    exact ⟨⟨off, xs, ys⟩, a1, l1, c1, a2, l2, c2, rfl, b1, b2⟩

/-- The cells of element i of a slice, from the row's words. -/
theorem cells_at {a : Addr} {k : Nat} {cs : List Value} {n : Nat} (h : W.cells? base (a.add k) n = some cs) (h0 : a.spot = none) : ∀ j, j < n → W.cell? ⟨a.block, a.off + k + j, none⟩ = cs[j]? := fun j hj => by
  obtain ⟨b, o, s⟩ := a
  subst h0
  obtain ⟨_, _, hc⟩ := World.cells?_some h
  rw [← hc j hj, Go.WideShapes.add_plain, Go.WideShapes.add_plain]

theorem spot_none {a : Addr} {cs : List Value} {n : Nat} (h : W.cells? base (a.add 0) n = some cs) (hn : 0 < n) : a.spot = none := by
  obtain ⟨_, hl, hc⟩ := World.cells?_some h
  have := hc 0 hn
  rw [List.getElem?_eq_getElem (by omega)] at this
  have e := World.cell?_spot this
  simpa [Addr.add] using e

/-- A slice of matches. -/
theorem open_matches {fuel : Nat} {cs : List Value} {x : DataW H × List MemPlace} (h : DataW.trod enc Trym.prog W base spare held fuel 49 cs = some x) : ∃ a l c ms, cs = [.slice a l c] ∧ MsAt 0 W a l ms := by
  rcases open_slice Trym.underlying49 h with ⟨hcs, _⟩ | ⟨a, len, cap, m, n, D, Pl, hcs, _, hl, hm, hmm, _, hx⟩
  · exact ⟨none, 0, 0, [], hcs, rfl, fun i m hm => (by simp at hm)⟩
  · have hlm : len ≤ m := by rw [hmm]; split <;> omega
    rw [Trym.cells31] at hx
    have inh : Inhabited Mt := ⟨⟨0, [], []⟩⟩
    obtain ⟨f, hf⟩ := choose_lt (α := Mt × (Option Addr × Nat × Nat) × (Option Addr × Nat × Nat)) (n := m) (p := fun i q => W.cells? base (a.add (i * 3)) 3 = some [.int .i64 q.1.off, .slice q.2.1.1 q.2.1.2.1 q.2.1.2.2, .slice q.2.2.1 q.2.2.2.1 q.2.2.2.2] ∧ BSl W q.2.1.1 q.2.1.2.1 q.2.1.2.2 q.1.vl ∧ BSl W q.2.2.1 q.2.2.2.1 q.2.2.2.2 q.1.msk) (fun i hi => by
      obtain ⟨cs', h1, h2⟩ := hx i hi
      obtain ⟨mt, p1, n1, c1, p2, n2, c2, rfl, b1, b2⟩ := open_match h2
      exact ⟨(mt, (p1, n1, c1), (p2, n2, c2)), h1, b1, b2⟩)
    refine ⟨some a, len, cap, (List.range len).map fun i => (f i).1, hcs, by simp, fun i mt hi => ?_⟩
    have hil : i < len := by
      have := (List.getElem?_eq_some_iff.1 hi).1
      simpa using this
    rw [List.getElem?_map, List.getElem?_range hil] at hi
    simp at hi
    subst hi
    obtain ⟨h1, b1, b2⟩ := hf i (by omega)
    have hsp : a.spot = none := by
      obtain ⟨h10, _⟩ := hf 0 (by omega)
      rw [Nat.zero_mul] at h10
      exact spot_none h10 (by decide)
    have hc := cells_at h1 hsp
    obtain ⟨b, o, s⟩ := a
    subst hsp
    exact ⟨b, o, _, _, _, _, _, _, rfl, Nat.zero_le _, ⟨hc 0 (by decide), hc 1 (by decide), hc 2 (by decide)⟩, b1.lo, b2.lo⟩

/-- A walk. -/
theorem open_walk {fuel : Nat} {cs : List Value} {x : DataW H × List MemPlace} (h : DataW.trod enc Trym.prog W base spare held fuel 29 cs = some x) : ∃ a l c ws, cs = [.slice a l c] ∧ WsAt 0 W a l ws := by
  rcases open_slice Trym.underlying29 h with ⟨hcs, _⟩ | ⟨a, len, cap, m, n, D, Pl, hcs, _, hl, hm, hmm, _, hx⟩
  · exact ⟨none, 0, 0, [], hcs, rfl, fun i m hm => (by simp at hm)⟩
  · have hlm : len ≤ m := by rw [hmm]; split <;> omega
    rw [Trym.cells51] at hx
    obtain ⟨f, hf⟩ := choose_lt (α := (Int × List Mt) × (Option Addr × Nat × Nat)) (n := m) (p := fun i q => W.cells? base (a.add (i * 2)) 2 = some [.int .i64 q.1.1, .slice q.2.1 q.2.2.1 q.2.2.2] ∧ MsAt 0 W q.2.1 q.2.2.1 q.1.2) (fun i hi => by
      obtain ⟨cs', h1, h2⟩ := hx i hi
      obtain ⟨y0, y1, n', _, hl', h0, h1'⟩ := trod_struct2 Trym.underlying51 h2
      rw [Trym.cells51] at hl'
      match cs', hl' with
      | [v0, v1], _ =>
        have k0 : DataW.trod enc Trym.prog W base spare held n' 3 [v0] = some y0 := h0
        have k1 : DataW.trod enc Trym.prog W base spare held n' 49 [v1] = some y1 := h1'
        obtain ⟨s, e0, _, _⟩ := DataW.trod_int Trym.underlying3 k0
        obtain ⟨a1, l1, c1, ms, e1, b1⟩ := open_matches k1
        simp only [List.cons.injEq, and_true] at e0 e1
        subst e0 e1
        exact ⟨((s, ms), (a1, l1, c1)), h1, b1⟩)
    refine ⟨some a, len, cap, (List.range len).map fun i => (f i).1, hcs, by simp, fun i r hi => ?_⟩
    have hil : i < len := by
      have := (List.getElem?_eq_some_iff.1 hi).1
      simpa using this
    rw [List.getElem?_map, List.getElem?_range hil] at hi
    simp at hi
    subst hi
    obtain ⟨h1, b1⟩ := hf i (by omega)
    have hsp : a.spot = none := by
      obtain ⟨h10, _⟩ := hf 0 (by omega)
      rw [Nat.zero_mul] at h10
      exact spot_none h10 (by decide)
    have hc := cells_at h1 hsp
    obtain ⟨b, o, s⟩ := a
    subst hsp
    exact ⟨b, o, _, _, _, rfl, Nat.zero_le _, ⟨hc 0 (by decide), hc 1 (by decide)⟩, b1⟩

end
end Go.Proofs.Qxb6000440aMods
