/-
  Rows of structs that a call has made: what they hold, and that stores keep it so.
-/
import Derived.Test.Qxb6000440aModsSizes
namespace Go.Proofs.Qxb6000440aMods
open Go.RowKit

theorem Trym.info31 : (Trym.prog.info? 31).map (fun i => (i.zero, i.size, i.bytes)) = some (some (.agg #[.int .i64 0, .slice none 0 0, .slice none 0 0]), 3, 56) := by kernel_rfl
theorem Trym.info51 : (Trym.prog.info? 51).map (fun i => (i.zero, i.size, i.bytes)) = some (some (.agg #[.int .i64 0, .slice none 0 0]), 2, 32) := by kernel_rfl

theorem MsAt.setCell {B : Nat} {w : World} {p : Option Addr} {n : Nat} {ms : List Mt} (h : MsAt B w p n ms) {a : Addr} (ha : a.block < B) (u : Value) : MsAt B (w.setCell a u) p n ms :=
  ⟨h.1, fun i m hm => by
    obtain ⟨b, o, p1, n1, c1, p2, n2, c2, hp, hB, ⟨h0, h1, h2⟩, k1, k2⟩ := h.2 i m hm
    have f : ∀ k, (w.setCell a u).cell? ⟨b, k, none⟩ = w.cell? ⟨b, k, none⟩ := fun k => World.cell?_of_block (w := w) (Below.heap_setCell w a u b (by omega))
    exact ⟨b, o, p1, n1, c1, p2, n2, c2, hp, hB, ⟨by rw [f]; exact h0, by rw [f]; exact h1, by rw [f]; exact h2⟩, k1.setCell ha u, k2.setCell ha u⟩⟩

theorem own_below {w w' : World} {base : Nat} {e : TypeId} {size n : Nat} {v : Value} {xs : List Value} (h : w.ownsRow base e size v n xs) (hb : Below w.heap.size w w') : w'.ownsRow base e size v n xs := by
  obtain ⟨h1, h2⟩ := h
  refine ⟨h1, ?_⟩
  rcases h2 with h2 | ⟨g, cap, cur, hv, hg, hh, r⟩
  · exact Or.inl h2
  · have hlt : g < w.heap.size := by
      rcases Nat.lt_or_ge g w.heap.size with h | h
      · exact h
      · rw [Array.getElem?_eq_none (by omega)] at hh; cases hh
    exact Or.inr ⟨g, cap, cur, hv, hg, by rw [hb.block g hlt]; exact hh, r⟩

theorem own_cell {w : World} {base : Nat} {e : TypeId} {size n c g : Nat} {xs : List Value} (h : w.ownsRow base e size (.slice (some ⟨g, 0, none⟩) n c) n xs) {k : Nat} (hk : k < n * size) :
    (∃ v, w.cell? ⟨g, k, none⟩ = some v) ∧ w.frozen? ⟨g, k, none⟩ = false := by
  refine ⟨?_, h.frozenAt k⟩
  rw [h.cellAt k hk]
  have := h.1
  exact ⟨_, List.getElem?_eq_getElem (by omega)⟩

theorem own_lt {w : World} {base : Nat} {e : TypeId} {size n c g : Nat} {xs : List Value} (h : w.ownsRow base e size (.slice (some ⟨g, 0, none⟩) n c) n xs) : g < w.heap.size := (h.lt g rfl).2

/-! ### A row of matches -/

/-- The cells xs are the matches ms, their bytes in blocks from B on. -/
def RM (B : Nat) (w : World) (xs : List Value) (ms : List Mt) : Prop :=
  ∀ i m, ms[i]? = some m → ∃ p1 n1 c1 p2 n2 c2, (xs[i * 3]? = some (.int .i64 m.off) ∧ xs[i * 3 + 1]? = some (.slice p1 n1 c1) ∧ xs[i * 3 + 2]? = some (.slice p2 n2 c2)) ∧ BLo B w p1 n1 c1 m.vl ∧ BLo B w p2 n2 c2 m.msk

theorem RM.below {B : Nat} {w w' : World} {xs : List Value} {ms : List Mt} (h : RM B w xs ms) (hb : Below w.heap.size w w') : RM B w' xs ms := fun i m hm => by
  obtain ⟨p1, n1, c1, p2, n2, c2, hx, k1, k2⟩ := h i m hm
  exact ⟨p1, n1, c1, p2, n2, c2, hx, k1.below hb, k2.below hb⟩

theorem RM.setCell {B : Nat} {w : World} {xs : List Value} {ms : List Mt} (h : RM B w xs ms) {a : Addr} (ha : a.block < B) (u : Value) : RM B (w.setCell a u) xs ms := fun i m hm => by
  obtain ⟨p1, n1, c1, p2, n2, c2, hx, k1, k2⟩ := h i m hm
  exact ⟨p1, n1, c1, p2, n2, c2, hx, k1.setCell ha u, k2.setCell ha u⟩

/-- Match j is put in. -/
theorem RM.put {B : Nat} {w : World} {xs : List Value} {ms : List Mt} (h : RM B w xs ms) (hx : xs.length = ms.length * 3) {j : Nat} (hj : j < ms.length) {m : Mt} {p1 p2 : Option Addr} {n1 c1 n2 c2 : Nat} (k1 : BLo B w p1 n1 c1 m.vl) (k2 : BLo B w p2 n2 c2 m.msk) :
    RM B w (((xs.set (j * 3) (.int .i64 m.off)).set (j * 3 + 1) (.slice p1 n1 c1)).set (j * 3 + 2) (.slice p2 n2 c2)) (ms.set j m) := fun i m' hm => by
  by_cases hij : i = j
  · subst hij
    rw [List.getElem?_set_self hj] at hm
    cases hm
    refine ⟨p1, n1, c1, p2, n2, c2, ⟨?_, ?_, ?_⟩, k1, k2⟩
    · rw [List.getElem?_set_ne (by omega), List.getElem?_set_ne (by omega), List.getElem?_set_self (by omega)]
    · rw [List.getElem?_set_ne (by omega), List.getElem?_set_self (by simp; omega)]
    · rw [List.getElem?_set_self (by simp; omega)]
  · rw [List.getElem?_set_ne (by omega)] at hm
    obtain ⟨q1, m1, d1, q2, m2, d2, ⟨x0, x1, x2⟩, l1, l2⟩ := h i m' hm
    refine ⟨q1, m1, d1, q2, m2, d2, ⟨?_, ?_, ?_⟩, l1, l2⟩
    · rw [List.getElem?_set_ne (by omega), List.getElem?_set_ne (by omega), List.getElem?_set_ne (by omega)]; exact x0
    · rw [List.getElem?_set_ne (by omega), List.getElem?_set_ne (by omega), List.getElem?_set_ne (by omega)]; exact x1
    · rw [List.getElem?_set_ne (by omega), List.getElem?_set_ne (by omega), List.getElem?_set_ne (by omega)]; exact x2

/-- Block g is a row of n matches of the call's own, their bytes in later blocks. -/
def MRow (w : World) (g n : Nat) : Prop := ∃ ys ms, w.ownsRow 0 31 3 (.slice (some ⟨g, 0, none⟩) n n) n ys ∧ ms.length = n ∧ RM (g + 1) w ys ms

theorem MRow.below {w w' : World} {g n : Nat} (h : MRow w g n) (hb : Below w.heap.size w w') : MRow w' g n := by
  obtain ⟨ys, ms, h1, h2, h3⟩ := h
  exact ⟨ys, ms, own_below h1 hb, h2, h3.below hb⟩

theorem made3 (n i : Nat) (k : Nat) (hk : k < 3) (hi : i < n) : ((madeCells (Value.agg #[.int .i64 0, .slice none 0 0, .slice none 0 0]).cells (n * 3)).toList)[i * 3 + k]? = some (#[Value.int .i64 0, .slice none 0 0, .slice none 0 0][k]!) := by
  have e : (Value.agg #[.int .i64 0, .slice none 0 0, .slice none 0 0]).cells = #[.int .i64 0, .slice none 0 0, .slice none 0 0] := rfl
  rw [e, madeCells]
  have hlt : i * 3 + k < n * 3 := by omega
  have hm : (i * 3 + k) % 3 = k := by omega
  simp [hlt, hm]

theorem nilBLo (B : Nat) (w : World) : BLo B w none 0 0 [] := ⟨⟨rfl, ⟨fun _ => rfl, fun x hx => (by simp at hx), fun h => absurd rfl h⟩, fun _ => rfl⟩, fun h => absurd rfl h⟩

theorem MRow.made {w : World} {g n : Nat} (h : w.ownsRow 0 31 3 (.slice (some ⟨g, 0, none⟩) n n) n (madeCells (Value.agg #[.int .i64 0, .slice none 0 0, .slice none 0 0]).cells (n * 3)).toList) : MRow w g n := by
  refine ⟨_, List.replicate n ⟨0, [], []⟩, h, by simp, fun i m hm => ?_⟩
  rw [List.getElem?_replicate] at hm
  split at hm
  · rename_i hi
    cases hm
    exact ⟨none, 0, 0, none, 0, 0, ⟨made3 n i 0 (by decide) hi, made3 n i 1 (by decide) hi, made3 n i 2 (by decide) hi⟩, nilBLo _ _, nilBLo _ _⟩
  · cases hm

theorem MRow.lt {w : World} {g n : Nat} (h : MRow w g n) : g < w.heap.size := by
  obtain ⟨ys, ms, h1, _⟩ := h
  exact own_lt h1

theorem MRow.cells {w : World} {g n j : Nat} (h : MRow w g n) (hj : j < n) :
    ∃ v0 v1 v2, (w.cell? ⟨g, j * 3, none⟩ = some v0 ∧ w.cell? ⟨g, j * 3 + 1, none⟩ = some v1 ∧ w.cell? ⟨g, j * 3 + 2, none⟩ = some v2) ∧ (w.frozen? ⟨g, j * 3, none⟩ = false ∧ w.frozen? ⟨g, j * 3 + 1, none⟩ = false ∧ w.frozen? ⟨g, j * 3 + 2, none⟩ = false) := by
  obtain ⟨ys, ms, h1, _⟩ := h
  obtain ⟨⟨v0, c0⟩, f0⟩ := own_cell h1 (k := j * 3) (by omega)
  obtain ⟨⟨v1, c1⟩, f1⟩ := own_cell h1 (k := j * 3 + 1) (by omega)
  obtain ⟨⟨v2, c2⟩, f2⟩ := own_cell h1 (k := j * 3 + 2) (by omega)
  exact ⟨v0, v1, v2, ⟨c0, c1, c2⟩, f0, f1, f2⟩

theorem MRow.store {w : World} {g n j : Nat} (h : MRow w g n) (hj : j < n) {off : Int} {vs ks : List Int} {p1 p2 : Option Addr} {n1 c1 n2 c2 : Nat} (k1 : BLo (g + 1) w p1 n1 c1 vs) (k2 : BLo (g + 1) w p2 n2 c2 ks) :
    MRow (((w.setCell ⟨g, j * 3, none⟩ (.int .i64 off)).setCell ⟨g, j * 3 + 1, none⟩ (.slice p1 n1 c1)).setCell ⟨g, j * 3 + 2, none⟩ (.slice p2 n2 c2)) g n := by
  obtain ⟨ys, ms, h1, h2, h3⟩ := h
  have hl : ys.length = ms.length * 3 := by rw [h1.1, h2]
  have s0 := (h1.stored (j * 3) (.int .i64 off)).1
  have s1 := (s0.stored (j * 3 + 1) (.slice p1 n1 c1)).1
  have s2 := (s1.stored (j * 3 + 2) (.slice p2 n2 c2)).1
  refine ⟨_, ms.set j ⟨off, vs, ks⟩, s2, by simp [h2], ?_⟩
  have r := h3.put hl (j := j) (by omega) (m := ⟨off, vs, ks⟩) k1 k2
  exact ((r.setCell (by simp) _).setCell (by simp) _).setCell (by simp) _

theorem MRow.at {w : World} {g n : Nat} (h : MRow w g n) : ∃ ms, MsAt g w (some ⟨g, 0, none⟩) n ms := by
  obtain ⟨ys, ms, h1, h2, h3⟩ := h
  refine ⟨ms, h2.symm, fun i m hm => ?_⟩
  obtain ⟨p1, n1, c1, p2, n2, c2, ⟨x0, x1, x2⟩, k1, k2⟩ := h3 i m hm
  have hi : i < n := by rw [← h2]; exact (List.getElem?_eq_some_iff.1 hm).1
  refine ⟨g, 0, p1, n1, c1, p2, n2, c2, rfl, Nat.le_refl _, ⟨?_, ?_, ?_⟩, k1.mono (by omega), k2.mono (by omega)⟩
  · rw [Nat.zero_add, h1.cellAt _ (by omega)]; exact x0
  · rw [Nat.zero_add, h1.cellAt _ (by omega)]; exact x1
  · rw [Nat.zero_add, h1.cellAt _ (by omega)]; exact x2

/-! ### A row of routes -/

/-- The cells xs are the routes ws, their matches in blocks from B on. -/
def RW (B : Nat) (w : World) (xs : List Value) (ws : List (Int × List Mt)) : Prop :=
  ∀ i r, ws[i]? = some r → ∃ p n c, (xs[i * 2]? = some (.int .i64 r.1) ∧ xs[i * 2 + 1]? = some (.slice p n c)) ∧ MsAt B w p n r.2

theorem RW.below {B : Nat} {w w' : World} {xs : List Value} {ws : List (Int × List Mt)} (h : RW B w xs ws) (hb : Below w.heap.size w w') : RW B w' xs ws := fun i r hr => by
  obtain ⟨p, n, c, hx, k⟩ := h i r hr
  exact ⟨p, n, c, hx, k.below hb⟩

theorem RW.setCell {B : Nat} {w : World} {xs : List Value} {ws : List (Int × List Mt)} (h : RW B w xs ws) {a : Addr} (ha : a.block < B) (u : Value) : RW B (w.setCell a u) xs ws := fun i r hr => by
  obtain ⟨p, n, c, hx, k⟩ := h i r hr
  exact ⟨p, n, c, hx, k.setCell ha u⟩

theorem RW.put {B : Nat} {w : World} {xs : List Value} {ws : List (Int × List Mt)} (h : RW B w xs ws) (hx : xs.length = ws.length * 2) {j : Nat} (hj : j < ws.length) {r : Int × List Mt} {p : Option Addr} {n c : Nat} (k : MsAt B w p n r.2) :
    RW B w ((xs.set (j * 2) (.int .i64 r.1)).set (j * 2 + 1) (.slice p n c)) (ws.set j r) := fun i r' hr => by
  by_cases hij : i = j
  · subst hij
    rw [List.getElem?_set_self hj] at hr
    cases hr
    refine ⟨p, n, c, ⟨?_, ?_⟩, k⟩
    · rw [List.getElem?_set_ne (by omega), List.getElem?_set_self (by omega)]
    · rw [List.getElem?_set_self (by simp; omega)]
  · rw [List.getElem?_set_ne (by omega)] at hr
    obtain ⟨q, m, d, ⟨x0, x1⟩, l⟩ := h i r' hr
    refine ⟨q, m, d, ⟨?_, ?_⟩, l⟩
    · rw [List.getElem?_set_ne (by omega), List.getElem?_set_ne (by omega)]; exact x0
    · rw [List.getElem?_set_ne (by omega), List.getElem?_set_ne (by omega)]; exact x1

/-- Of every route the list of matches is at most 1048576 long. -/
def RtOk (ws : List (Int × List Mt)) : Prop := ∀ r ∈ ws, r.2.length ≤ 1048576

/-- Block g is a row of n routes of the call's own, their matches in later blocks. -/
def WRow (w : World) (g n : Nat) : Prop := ∃ xs ws, w.ownsRow 0 51 2 (.slice (some ⟨g, 0, none⟩) n n) n xs ∧ ws.length = n ∧ RtOk ws ∧ RW (g + 1) w xs ws

theorem WRow.below {w w' : World} {g n : Nat} (h : WRow w g n) (hb : Below w.heap.size w w') : WRow w' g n := by
  obtain ⟨xs, ws, h1, h2, h3, h4⟩ := h
  exact ⟨xs, ws, own_below h1 hb, h2, h3, h4.below hb⟩

theorem made2 (n i : Nat) (k : Nat) (hk : k < 2) (hi : i < n) : ((madeCells (Value.agg #[.int .i64 0, .slice none 0 0]).cells (n * 2)).toList)[i * 2 + k]? = some (#[Value.int .i64 0, .slice none 0 0][k]!) := by
  have e : (Value.agg #[.int .i64 0, .slice none 0 0]).cells = #[.int .i64 0, .slice none 0 0] := rfl
  rw [e, madeCells]
  have hlt : i * 2 + k < n * 2 := by omega
  have hm : (i * 2 + k) % 2 = k := by omega
  simp [hlt, hm]

theorem nilMs (B : Nat) (w : World) : MsAt B w none 0 [] := ⟨rfl, fun i m hm => by simp at hm⟩

theorem WRow.made {w : World} {g n : Nat} (h : w.ownsRow 0 51 2 (.slice (some ⟨g, 0, none⟩) n n) n (madeCells (Value.agg #[.int .i64 0, .slice none 0 0]).cells (n * 2)).toList) : WRow w g n := by
  refine ⟨_, List.replicate n (0, []), h, by simp, fun r hr => ?_, fun i r hr => ?_⟩
  · rw [List.eq_of_mem_replicate hr]; simp
  · rw [List.getElem?_replicate] at hr
    split at hr
    · rename_i hi
      cases hr
      exact ⟨none, 0, 0, ⟨made2 n i 0 (by decide) hi, made2 n i 1 (by decide) hi⟩, nilMs _ _⟩
    · cases hr

theorem WRow.lt {w : World} {g n : Nat} (h : WRow w g n) : g < w.heap.size := by
  obtain ⟨ys, ms, h1, _⟩ := h
  exact own_lt h1

theorem WRow.cells {w : World} {g n j : Nat} (h : WRow w g n) (hj : j < n) :
    ∃ v0 v1, (w.cell? ⟨g, j * 2, none⟩ = some v0 ∧ w.cell? ⟨g, j * 2 + 1, none⟩ = some v1) ∧ (w.frozen? ⟨g, j * 2, none⟩ = false ∧ w.frozen? ⟨g, j * 2 + 1, none⟩ = false) := by
  obtain ⟨ys, ms, h1, _⟩ := h
  obtain ⟨⟨v0, c0⟩, f0⟩ := own_cell h1 (k := j * 2) (by omega)
  obtain ⟨⟨v1, c1⟩, f1⟩ := own_cell h1 (k := j * 2 + 1) (by omega)
  exact ⟨v0, v1, ⟨c0, c1⟩, f0, f1⟩

theorem WRow.store {w : World} {g n j : Nat} (h : WRow w g n) (hj : j < n) {s : Int} {ms : List Mt} {p : Option Addr} {k c : Nat} (hk : k ≤ 1048576) (hm : MsAt (g + 1) w p k ms) :
    WRow ((w.setCell ⟨g, j * 2, none⟩ (.int .i64 s)).setCell ⟨g, j * 2 + 1, none⟩ (.slice p k c)) g n := by
  obtain ⟨ys, ws, h1, h2, h3, h4⟩ := h
  have hl : ys.length = ws.length * 2 := by rw [h1.1, h2]
  have s0 := (h1.stored (j * 2) (.int .i64 s)).1
  have s1 := (s0.stored (j * 2 + 1) (.slice p k c)).1
  refine ⟨_, ws.set j (s, ms), s1, by simp [h2], fun r hr => ?_, ?_⟩
  · rcases List.mem_or_eq_of_mem_set hr with h | h
    · exact h3 r h
    · rw [h]; show ms.length ≤ _; rw [← hm.1]; exact hk
  · have r := h4.put hl (j := j) (by omega) (r := (s, ms)) (c := c) hm
    exact (r.setCell (by simp) _).setCell (by simp) _

theorem WRow.at {w : World} {g n : Nat} (h : WRow w g n) : ∃ ws, WsAt g w (some ⟨g, 0, none⟩) n ws ∧ RtOk ws := by
  obtain ⟨ys, ws, h1, h2, h3, h4⟩ := h
  refine ⟨ws, ⟨h2.symm, fun i r hr => ?_⟩, h3⟩
  obtain ⟨p, k, c, ⟨x0, x1⟩, hm⟩ := h4 i r hr
  have hi : i < n := by rw [← h2]; exact (List.getElem?_eq_some_iff.1 hr).1
  refine ⟨g, 0, p, k, c, rfl, Nat.le_refl _, ⟨?_, ?_⟩, hm.mono (by omega)⟩
  · rw [Nat.zero_add, h1.cellAt _ (by omega)]; exact x0
  · rw [Nat.zero_add, h1.cellAt _ (by omega)]; exact x1

end Go.Proofs.Qxb6000440aMods
