import Derived.Test.Qxb6000440aModsMatch
namespace Go.Proofs.Qxb6000440aMods
open Go.RowKit

/-- A byte match: its offset, its value, its mask. -/
structure Mt where
  off : Int
  vl : List Int
  msk : List Int

/-- A slice of byte matches, as it lies in a world, in blocks from B on. -/
def MsAt (B : Nat) (w : World) (p : Option Addr) (n : Nat) (ms : List Mt) : Prop :=
  n = ms.length ∧ ∀ i m, ms[i]? = some m → ∃ b o p1 n1 c1 p2 n2 c2, p = some ⟨b, o, none⟩ ∧ B ≤ b ∧
    (w.cell? ⟨b, o + i * 3, none⟩ = some (.int .i64 m.off) ∧ w.cell? ⟨b, o + i * 3 + 1, none⟩ = some (.slice p1 n1 c1) ∧ w.cell? ⟨b, o + i * 3 + 2, none⟩ = some (.slice p2 n2 c2)) ∧
    BLo B w p1 n1 c1 m.vl ∧ BLo B w p2 n2 c2 m.msk

/-- A slice of routes (a service and its matches), as it lies in a world, in blocks from B on. -/
def WsAt (B : Nat) (w : World) (p : Option Addr) (n : Nat) (ws : List (Int × List Mt)) : Prop :=
  n = ws.length ∧ ∀ i r, ws[i]? = some r → ∃ b o p' n' c', p = some ⟨b, o, none⟩ ∧ B ≤ b ∧
    (w.cell? ⟨b, o + i * 2, none⟩ = some (.int .i64 r.1) ∧ w.cell? ⟨b, o + i * 2 + 1, none⟩ = some (.slice p' n' c')) ∧ MsAt B w p' n' r.2

theorem MsAt.below {B : Nat} {w w' : World} {p : Option Addr} {n : Nat} {ms : List Mt} (h : MsAt B w p n ms) (hb : Below w.heap.size w w') : MsAt B w' p n ms :=
  ⟨h.1, fun i m hm => by
    obtain ⟨b, o, p1, n1, c1, p2, n2, c2, hp, hB, ⟨h0, h1, h2⟩, k1, k2⟩ := h.2 i m hm
    exact ⟨b, o, p1, n1, c1, p2, n2, c2, hp, hB, ⟨cell_later hb h0, cell_later hb h1, cell_later hb h2⟩, k1.below hb, k2.below hb⟩⟩

theorem WsAt.below {B : Nat} {w w' : World} {p : Option Addr} {n : Nat} {ws : List (Int × List Mt)} (h : WsAt B w p n ws) (hb : Below w.heap.size w w') : WsAt B w' p n ws :=
  ⟨h.1, fun i r hr => by
    obtain ⟨b, o, p', n', c', hp, hB, ⟨h0, h1⟩, k⟩ := h.2 i r hr
    exact ⟨b, o, p', n', c', hp, hB, ⟨cell_later hb h0, cell_later hb h1⟩, k.below hb⟩⟩

theorem MsAt.mono {B B' : Nat} {w : World} {p : Option Addr} {n : Nat} {ms : List Mt} (h : MsAt B w p n ms) (hB : B' ≤ B) : MsAt B' w p n ms :=
  ⟨h.1, fun i m hm => by
    obtain ⟨b, o, p1, n1, c1, p2, n2, c2, hp, hb, hc, k1, k2⟩ := h.2 i m hm
    exact ⟨b, o, p1, n1, c1, p2, n2, c2, hp, Nat.le_trans hB hb, hc, k1.mono hB, k2.mono hB⟩⟩

theorem getSome {α : Type} {l : List α} {i n : Nat} (hn : n = l.length) (h : i < n) : ∃ x, l[i]? = some x := ⟨_, List.getElem?_eq_getElem (by omega)⟩

/-- Route i of a walk, and where it lies. -/
theorem WsAt.get {B : Nat} {w : World} {p : Option Addr} {n : Nat} {ws : List (Int × List Mt)} (h : WsAt B w p n ws) {i : Nat} (hi : i < n) :
    ∃ s ms b o p' n' c', Hid (ws[i]? = some (s, ms)) ∧ p = some ⟨b, o, none⟩ ∧ w.cell? ⟨b, o + i * 2, none⟩ = some (.int .i64 s) ∧ w.cell? ⟨b, o + i * 2 + 1, none⟩ = some (.slice p' n' c') ∧ Hid (MsAt B w p' n' ms) := by
  obtain ⟨⟨s, ms⟩, hr⟩ := getSome h.1 hi
  obtain ⟨b, o, p', n', c', hp, _, ⟨h0, h1⟩, k⟩ := h.2 i _ hr
  exact ⟨s, ms, b, o, p', n', c', hr, hp, h0, h1, k⟩

/-- Match j, and where it lies. -/
theorem MsAt.get {B : Nat} {w : World} {p : Option Addr} {n : Nat} {ms : List Mt} (h : MsAt B w p n ms) {i : Nat} (hi : i < n) :
    ∃ m b o p1 n1 c1 p2 n2 c2, Hid (ms[i]? = some m) ∧ p = some ⟨b, o, none⟩ ∧ w.cell? ⟨b, o + i * 3, none⟩ = some (.int .i64 m.off) ∧ w.cell? ⟨b, o + i * 3 + 1, none⟩ = some (.slice p1 n1 c1) ∧ w.cell? ⟨b, o + i * 3 + 2, none⟩ = some (.slice p2 n2 c2) ∧
      Hid (BLo B w p1 n1 c1 m.vl) ∧ Hid (BLo B w p2 n2 c2 m.msk) := by
  obtain ⟨m, hm⟩ := getSome h.1 hi
  obtain ⟨b, o, p1, n1, c1, p2, n2, c2, hp, _, ⟨h0, h1, h2⟩, k1, k2⟩ := h.2 i m hm
  exact ⟨m, b, o, p1, n1, c1, p2, n2, c2, hm, hp, h0, h1, h2, k1, k2⟩

end Go.Proofs.Qxb6000440aMods
