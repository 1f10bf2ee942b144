/-
  Boxes of structs that a call keeps: what they hold in a later world; and the contracts in a later world.
-/
import Derived.Test.Qxb6000440aModsSame
import Derived.Test.Qxb6000440aModsCloneWalk
import Derived.Test.Qxb6000440aModsGuards
namespace Go.Proofs.Qxb6000440aMods
open Go.RowKit

/-- Block g is a box of three cells that may be written. -/
def Bx (w : World) (g : Nat) (v0 v1 v2 : Value) : Prop :=
  (w.cell? ⟨g, 0, none⟩ = some v0 ∧ w.cell? ⟨g, 1, none⟩ = some v1 ∧ w.cell? ⟨g, 2, none⟩ = some v2) ∧ (w.frozen? ⟨g, 0, none⟩ = false ∧ w.frozen? ⟨g, 1, none⟩ = false ∧ w.frozen? ⟨g, 2, none⟩ = false) ∧ g < w.heap.size

theorem Bx.below {w w' : World} {g : Nat} {v0 v1 v2 : Value} (h : Bx w g v0 v1 v2) (hb : Below w.heap.size w w') : Bx w' g v0 v1 v2 := by
  obtain ⟨⟨h0, h1, h2⟩, ⟨f0, f1, f2⟩, hg⟩ := h
  have hf := fun o => hb.frozen (p := ⟨g, o, none⟩) hg
  have := hb.size
  exact ⟨⟨cell_later hb h0, cell_later hb h1, cell_later hb h2⟩, ⟨by rw [hf]; exact f0, by rw [hf]; exact f1, by rw [hf]; exact f2⟩, by omega⟩

theorem Bx.new (w : World) (v0 v1 v2 : Value) (t : TypeId) : Bx (w.alloc (.cells #[v0, v1, v2] t)) w.heap.size v0 v1 v2 :=
  ⟨⟨by simp, by simp, by simp⟩, ⟨by simp, by simp, by simp⟩, by simp⟩

theorem Bx.far {w : World} {g : Nat} {v0 v1 v2 : Value} (h : Bx w g v0 v1 v2) {a : Addr} (ha : g ≠ a.block) (u : Value) : Bx (w.setCell a u) g v0 v1 v2 := by
  obtain ⟨⟨h0, h1, h2⟩, ⟨f0, f1, f2⟩, hg⟩ := h
  have hf := fun o => World.frozen?_of_block (w := w) (a := ⟨g, o, none⟩) (Below.heap_setCell w a u g ha)
  exact ⟨⟨cell_far h0 ha, cell_far h1 ha, cell_far h2 ha⟩, ⟨by rw [hf]; exact f0, by rw [hf]; exact f1, by rw [hf]; exact f2⟩, by simpa [World.setCell] using hg⟩

theorem Bx.put {w : World} {g : Nat} {v0 v1 v2 : Value} (h : Bx w g v0 v1 v2) (u0 u1 u2 : Value) : Bx (((w.setCell ⟨g, 0, none⟩ u0).setCell ⟨g, 1, none⟩ u1).setCell ⟨g, 2, none⟩ u2) g u0 u1 u2 := by
  obtain ⟨⟨h0, h1, h2⟩, ⟨f0, f1, f2⟩, hg⟩ := h
  refine ⟨⟨by simp [go_sem, h0], by simp [go_sem, h1], by simp [go_sem, h2]⟩, ⟨by simp [f0], by simp [f1], by simp [f2]⟩, by simpa [World.setCell] using hg⟩

/-- Block g is a box of two cells that may be written. -/
def Bx2 (w : World) (g : Nat) (v0 v1 : Value) : Prop :=
  (w.cell? ⟨g, 0, none⟩ = some v0 ∧ w.cell? ⟨g, 1, none⟩ = some v1) ∧ (w.frozen? ⟨g, 0, none⟩ = false ∧ w.frozen? ⟨g, 1, none⟩ = false) ∧ g < w.heap.size

theorem Bx2.below {w w' : World} {g : Nat} {v0 v1 : Value} (h : Bx2 w g v0 v1) (hb : Below w.heap.size w w') : Bx2 w' g v0 v1 := by
  obtain ⟨⟨h0, h1⟩, ⟨f0, f1⟩, hg⟩ := h
  have hf := fun o => hb.frozen (p := ⟨g, o, none⟩) hg
  have := hb.size
  exact ⟨⟨cell_later hb h0, cell_later hb h1⟩, ⟨by rw [hf]; exact f0, by rw [hf]; exact f1⟩, by omega⟩
theorem Bx2.alloc {w : World} {g : Nat} {v0 v1 : Value} (h : Bx2 w g v0 v1) (o : Obj) : Bx2 (w.alloc o) g v0 v1 := h.below ((Below.refl _ _).alloc (Nat.le_refl _) _)
theorem Bx2.drew {w : World} {g : Nat} {v0 v1 : Value} (h : Bx2 w g v0 v1) : Bx2 w.drew g v0 v1 := h
theorem Bx2.new (w : World) (v0 v1 : Value) (t : TypeId) : Bx2 (w.alloc (.cells #[v0, v1] t)) w.heap.size v0 v1 := ⟨⟨by simp, by simp⟩, ⟨by simp, by simp⟩, by simp⟩
theorem Bx2.put {w : World} {g : Nat} {v0 v1 : Value} (h : Bx2 w g v0 v1) (u0 u1 : Value) : Bx2 ((w.setCell ⟨g, 0, none⟩ u0).setCell ⟨g, 1, none⟩ u1) g u0 u1 := by
  obtain ⟨⟨h0, h1⟩, ⟨f0, f1⟩, hg⟩ := h
  exact ⟨⟨by simp [go_sem, h0], by simp [go_sem, h1]⟩, ⟨by simp [f0], by simp [f1]⟩, by simpa [World.setCell] using hg⟩

/-- Six cells of block g. -/
def Six (w : World) (g : Nat) (v0 v1 v2 v3 v4 v5 : Value) : Prop :=
  (w.cell? ⟨g, 0, none⟩ = some v0 ∧ w.cell? ⟨g, 1, none⟩ = some v1 ∧ w.cell? ⟨g, 2, none⟩ = some v2) ∧ (w.cell? ⟨g, 3, none⟩ = some v3 ∧ w.cell? ⟨g, 4, none⟩ = some v4 ∧ w.cell? ⟨g, 5, none⟩ = some v5)

theorem Six.new (w : World) (k : Nat) (hk : w.heap.size = k) (v0 v1 v2 v3 v4 v5 : Value) (t : TypeId) : Six (w.alloc (.cells #[v0, v1, v2, v3, v4, v5] t)) k v0 v1 v2 v3 v4 v5 := by
  subst hk
  exact ⟨⟨by simp, by simp, by simp⟩, by simp, by simp, by simp⟩
theorem Six.below {w w' : World} {g : Nat} {v0 v1 v2 v3 v4 v5 : Value} (h : Six w g v0 v1 v2 v3 v4 v5) (hb : Below w.heap.size w w') : Six w' g v0 v1 v2 v3 v4 v5 :=
  ⟨⟨cell_later hb h.1.1, cell_later hb h.1.2.1, cell_later hb h.1.2.2⟩, cell_later hb h.2.1, cell_later hb h.2.2.1, cell_later hb h.2.2.2⟩
theorem Six.far {w : World} {g : Nat} {v0 v1 v2 v3 v4 v5 : Value} (h : Six w g v0 v1 v2 v3 v4 v5) {a : Addr} (ha : g ≠ a.block) (u : Value) : Six (w.setCell a u) g v0 v1 v2 v3 v4 v5 :=
  ⟨⟨cell_far h.1.1 ha, cell_far h.1.2.1 ha, cell_far h.1.2.2 ha⟩, cell_far h.2.1 ha, cell_far h.2.2.1 ha, cell_far h.2.2.2 ha⟩
theorem Bx2.new' (w : World) (k : Nat) (hk : w.heap.size = k) (v0 v1 : Value) (t : TypeId) : Bx2 (w.alloc (.cells #[v0, v1] t)) k v0 v1 := by
  subst hk; exact Bx2.new w v0 v1 t
theorem sizele (w : World) (o : Obj) : w.heap.size ≤ (w.alloc o).heap.size := by simp
theorem size1 (w : World) (o : Obj) : (w.alloc o).heap.size = w.heap.size + 1 := by simp

/-- The route that a law adds: its box, its matches. -/
def Ext (w wx : World) (g9 g10 : Nat) (ms : List Mt) : Prop :=
  (wx.cell? ⟨g9, 0, none⟩ = some (.int .i64 0) ∧ wx.cell? ⟨g9, 1, none⟩ = some (.slice (some ⟨g10, 0, none⟩) 2 2)) ∧ MsAt 0 wx (some ⟨g10, 0, none⟩) 2 ms ∧ Below w.heap.size w wx

theorem ext_of {w W : World} {g9 g10 : Nat} {off off' : Int} {p1 p2 p3 p4 : Option Addr} {n1 c1 n2 c2 n3 c3 n4 c4 : Nat} {vs ms vs' ms' : List Int} (hk : Bx2 W g9 (.int .i64 0) (.slice (some ⟨g10, 0, none⟩) 2 2))
    (hs : Six W g10 (.int .i64 off) (.slice p1 n1 c1) (.slice p2 n2 c2) (.int .i64 off') (.slice p3 n3 c3) (.slice p4 n4 c4)) (hb : Below w.heap.size w W) (h1 : BSl w p1 n1 c1 vs) (h2 : BSl w p2 n2 c2 ms) (h3 : BSl w p3 n3 c3 vs') (h4 : BSl w p4 n4 c4 ms') :
    Ext w W g9 g10 [⟨off, vs, ms⟩, ⟨off', vs', ms'⟩] := by
  refine ⟨hk.1, ⟨rfl, fun i m hm => ?_⟩, hb⟩
  match i, hm with
  | 0, hm =>
    simp at hm
    subst hm
    exact ⟨g10, 0, p1, n1, c1, p2, n2, c2, rfl, Nat.zero_le _, hs.1, (h1.below hb).lo, (h2.below hb).lo⟩
  | 1, hm =>
    simp at hm
    subst hm
    exact ⟨g10, 0, p3, n3, c3, p4, n4, c4, rfl, Nat.zero_le _, hs.2, (h3.below hb).lo, (h4.below hb).lo⟩

/-- The cells of a walk at an address, as 'append' asks for them; and what they are. -/
theorem WsAt.news {w : World} {g n : Nat} {ws : List (Int × List Mt)} (h : WsAt 0 w (some ⟨g, 0, none⟩) n ws) :
    ∃ news : List Value, news.length = n * 2 ∧ (∀ j u, news[j]? = some u → w.cell? ((⟨g, 0, none⟩ : Addr).add j) = some u) ∧ (∀ u ∈ news, u.oneCell' = true) ∧ RW 0 w news ws := by
  have key : ∀ j, j < n * 2 → ∃ u, w.cell? ⟨g, j, none⟩ = some u ∧ u.oneCell' = true := fun j hj => by
    obtain ⟨r, hr⟩ := getSome h.1 (show j / 2 < n by omega)
    obtain ⟨b, o, p', n', c', hp, _, ⟨h0, h1⟩, _⟩ := h.2 _ r hr
    simp only [Option.some.injEq, Addr.mk.injEq, and_true] at hp
    obtain ⟨rfl, rfl⟩ := hp
    rw [Nat.zero_add] at h0 h1
    rcases Nat.mod_two_eq_zero_or_one j with e | e
    · rw [show j / 2 * 2 = j by omega] at h0
      exact ⟨_, h0, rfl⟩
    · rw [show j / 2 * 2 + 1 = j by omega] at h1
      exact ⟨_, h1, rfl⟩
  have get : ∀ j, j < n * 2 → ((List.range (n * 2)).map fun j => (w.cell? ⟨g, j, none⟩).getD undef)[j]? = some ((w.cell? ⟨g, j, none⟩).getD undef) := fun j hj => by
    rw [List.getElem?_map, List.getElem?_range hj]; rfl
  refine ⟨(List.range (n * 2)).map fun j => (w.cell? ⟨g, j, none⟩).getD undef, by simp, fun j u hu => ?_, fun u hu => ?_, fun i r hr => ?_⟩
  · have hj : j < n * 2 := by have := (List.getElem?_eq_some_iff.1 hu).1; simpa using this
    obtain ⟨v, hv, _⟩ := key j hj
    rw [get j hj, hv] at hu
    rw [Go.WideShapes.add_plain, Nat.zero_add, hv]
    exact hu
  · obtain ⟨j, hj, rfl⟩ := List.mem_map.1 hu
    obtain ⟨v, hv, h1⟩ := key j (List.mem_range.1 hj)
    rw [hv]
    exact h1
  · obtain ⟨b, o, p', n', c', hp, _, ⟨h0, h1⟩, hm⟩ := h.2 i r hr
    simp only [Option.some.injEq, Addr.mk.injEq, and_true] at hp
    obtain ⟨rfl, rfl⟩ := hp
    rw [Nat.zero_add] at h0 h1
    have hi : i < n := by rw [h.1]; exact (List.getElem?_eq_some_iff.1 hr).1
    refine ⟨p', n', c', ⟨?_, ?_⟩, hm⟩
    · rw [get _ (by omega), h0]; rfl
    · rw [get _ (by omega), h1]; rfl

theorem RW.snoc {w : World} {xs : List Value} {ws : List (Int × List Mt)} (h : RW 0 w xs ws) (hl : xs.length = ws.length * 2) {s : Int} {ms : List Mt} {p : Option Addr} {n c : Nat} (hm : MsAt 0 w p n ms) : RW 0 w (xs ++ [.int .i64 s, .slice p n c]) (ws ++ [(s, ms)]) := fun i r hr => by
  by_cases hi : i < ws.length
  · rw [List.getElem?_append_left hi] at hr
    obtain ⟨p', n', c', ⟨x0, x1⟩, k⟩ := h i r hr
    exact ⟨p', n', c', ⟨by rw [List.getElem?_append_left (by omega)]; exact x0, by rw [List.getElem?_append_left (by omega)]; exact x1⟩, k⟩
  · have hi' : i = ws.length := by
      have := (List.getElem?_eq_some_iff.1 hr).1
      simp at this
      omega
    subst hi'
    simp at hr
    subst hr
    exact ⟨p, n, c, ⟨by rw [List.getElem?_append_right (by omega), hl]; simp, by rw [List.getElem?_append_right (by omega), hl]; simp⟩, hm⟩

/-- A row that the call owns, in the words of 'WsAt'. -/
theorem RW.at {w : World} {g n c : Nat} {xs : List Value} {ws : List (Int × List Mt)} (hown : w.ownsRow 0 54 2 (.slice (some ⟨g, 0, none⟩) n c) n xs) (hn : n = ws.length) (h : RW 0 w xs ws) : WsAt 0 w (some ⟨g, 0, none⟩) n ws := by
  refine ⟨hn, fun i r hr => ?_⟩
  obtain ⟨p', n', c', ⟨x0, x1⟩, k⟩ := h i r hr
  have hi : i < n := by rw [hn]; exact (List.getElem?_eq_some_iff.1 hr).1
  refine ⟨g, 0, p', n', c', rfl, Nat.zero_le _, ⟨?_, ?_⟩, k⟩
  · rw [Nat.zero_add, hown.cellAt _ (by omega)]; exact x0
  · rw [Nat.zero_add, hown.cellAt _ (by omega)]; exact x1

/-- Two matches in a new block. -/
theorem MsAt.two {w : World} {off off' : Int} {p1 p2 p3 p4 : Option Addr} {n1 c1 n2 c2 n3 c3 n4 c4 : Nat} {vs ms vs' ms' : List Int} {t : TypeId} (h1 : BSl w p1 n1 c1 vs) (h2 : BSl w p2 n2 c2 ms) (h3 : BSl w p3 n3 c3 vs') (h4 : BSl w p4 n4 c4 ms') :
    MsAt 0 (w.alloc (.cells #[.int .i64 off, .slice p1 n1 c1, .slice p2 n2 c2, .int .i64 off', .slice p3 n3 c3, .slice p4 n4 c4] t)) (some ⟨w.heap.size, 0, none⟩) 2 [⟨off, vs, ms⟩, ⟨off', vs', ms'⟩] := by
  have hb : Below w.heap.size w (w.alloc (.cells #[.int .i64 off, .slice p1 n1 c1, .slice p2 n2 c2, .int .i64 off', .slice p3 n3 c3, .slice p4 n4 c4] t)) := (Below.refl _ _).alloc (Nat.le_refl _) _
  refine ⟨rfl, fun i m hm => ?_⟩
  match i, hm with
  | 0, hm =>
    simp at hm
    subst hm
    exact ⟨w.heap.size, 0, p1, n1, c1, p2, n2, c2, rfl, Nat.zero_le _, ⟨by simp, by simp, by simp⟩, (h1.below hb).lo, (h2.below hb).lo⟩
  | 1, hm =>
    simp at hm
    subst hm
    exact ⟨w.heap.size, 0, p3, n3, c3, p4, n4, c4, rfl, Nat.zero_le _, ⟨by simp, by simp, by simp⟩, (h3.below hb).lo, (h4.below hb).lo⟩

/-- One route in a new block. -/
theorem WsAt.one {w : World} {s : Int} {p : Option Addr} {n c : Nat} {ms : List Mt} {t : TypeId} (h : MsAt 0 w p n ms) : WsAt 0 (w.alloc (.cells #[.int .i64 s, .slice p n c] t)) (some ⟨w.heap.size, 0, none⟩) 1 [(s, ms)] := by
  refine ⟨rfl, fun i r hr => ?_⟩
  match i, hr with
  | 0, hr =>
    simp at hr
    subst hr
    exact ⟨w.heap.size, 0, p, n, c, rfl, Nat.zero_le _, ⟨by simp, by simp⟩, h.below ((Below.refl _ _).alloc (Nat.le_refl _) _)⟩

end Go.Proofs.Qxb6000440aMods
