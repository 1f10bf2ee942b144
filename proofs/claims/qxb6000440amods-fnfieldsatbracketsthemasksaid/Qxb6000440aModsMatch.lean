import Derived.Test.Qxb6000440aModsKeys
import Derived.Deep.RegionHeld3
namespace Go.Proofs.Qxb6000440aMods
open Go.RowKit

/-- A sum that is small bounds both lengths. -/
def SmallIf (t : Int) (n1 n2 : Nat) : Prop := t ≤ 1048576 → n1 ≤ 1048576 ∧ n2 ≤ 1048576

/-- lawMatchBytes: too big, or a sum that bounds both lengths. -/
theorem mbytes (off : Int) (p1 p2 : Option Addr) (n1 c1 n2 c2 : Nat) (w : World) :
    Calls Trym.prog 23 #[.agg #[.int .i64 off, .slice p1 n1 c1, .slice p2 n2 c2]] w fun e w' =>
      ∃ t : Int, e = .returned (.int .i64 t) ∧ 0 ≤ t ∧ t ≤ 4194304 ∧ SmallIf t n1 n2 ∧ Below w.heap.size w w' := by
  by_cases h1 : n1 ≤ 1048576
  · by_cases h2 : n2 ≤ 1048576
    · go_enter Trym.func23, Trym.ntmps23
      go_wp2
      go_ret
      exact ⟨_, rfl, by omega, by omega, fun _ => ⟨h1, h2⟩, (Below.refl _ _).alloc (Nat.le_refl _) _⟩
    · have h2' : 1048576 < n2 := by omega
      clear h2
      go_enter Trym.func23, Trym.ntmps23
      go_wp2
      go_ret
      exact ⟨_, rfl, by omega, by omega, fun h => absurd h (by decide), (Below.refl _ _).alloc (Nat.le_refl _) _⟩
  · have h1' : 1048576 < n1 := by omega
    clear h1
    go_enter Trym.func23, Trym.ntmps23
    go_wp2
    go_ret
    exact ⟨_, rfl, by omega, by omega, fun h => absurd h (by decide), (Below.refl _ _).alloc (Nat.le_refl _) _⟩

/-- ZZFieldOffset. -/
theorem foff (off : Int) (p : Option Addr) (n c : Nat) (w : World) :
    Calls Trym.prog 29 #[.agg #[.int .i64 off, .slice p n c]] w fun e w' => e = .returned (.int .i64 off) ∧ w' = w.alloc (.cells #[.int .i64 off, .slice p n c] 47) := by
  go_enter Trym.func29, Trym.ntmps29
  go_wp2
  go_ret
  exact ⟨rfl, rfl⟩

/-- ZZFieldMask. -/
theorem fmask (off : Int) (p : Option Addr) (n c : Nat) (w : World) :
    Calls Trym.prog 30 #[.agg #[.int .i64 off, .slice p n c]] w fun e w' => e = .returned (.slice p n c) ∧ w' = w.alloc (.cells #[.int .i64 off, .slice p n c] 47) := by
  go_enter Trym.func30, Trym.ntmps30
  go_wp2
  go_ret
  exact ⟨rfl, rfl⟩

/-- ZZNewByteMatch. -/
theorem newMatch (off : Int) (p1 p2 : Option Addr) (n1 c1 n2 c2 : Nat) (w : World) :
    Calls Trym.prog 40 #[.int .i64 off, .slice p1 n1 c1, .slice p2 n2 c2] w fun e w' => e = .returned (.agg #[.int .i64 off, .slice p1 n1 c1, .slice p2 n2 c2]) ∧ w.alloc (.cells #[.int .i64 off, .slice p1 n1 c1, .slice p2 n2 c2] 43) = w' := by
  go_enter Trym.func40, Trym.ntmps40
  go_wp2
  exact bodyPost_ret (v := .agg #[.int .i64 off, .slice p1 n1 c1, .slice p2 n2 c2]) (by simp [results, Trym.results40, go_sem]) rfl ⟨rfl, rfl⟩

/-- lawToMatch. -/
theorem toMatch (off : Int) (p1 p2 : Option Addr) (n1 c1 n2 c2 : Nat) (w : World) :
    Calls Trym.prog 28 #[.agg #[.int .i64 off, .slice p1 n1 c1, .slice p2 n2 c2]] w fun e w' => e = .returned (.agg #[.int .i64 off, .slice p1 n1 c1, .slice p2 n2 c2]) ∧ Below w.heap.size w w' := by
  go_enter Trym.func28, Trym.ntmps28
  go_wp2_with (go_at_call 40; refine (newMatch _ _ _ _ _ _ _ _).mono ?_; rintro e w' ⟨rfl, rfl⟩)
  exact bodyPost_ret (v := .agg #[.int .i64 off, .slice p1 n1 c1, .slice p2 n2 c2]) (by simp [results, Trym.results28, go_sem]) rfl ⟨rfl, (((Below.refl _ _).alloc (Nat.le_refl _) _).alloc (by simp) _).alloc (by simp; omega) _⟩

/-- ZZNewMatchRoute. -/
theorem newRoute (s : Int) (p : Option Addr) (n c : Nat) (w : World) :
    Calls Trym.prog 36 #[.int .i64 s, .slice p n c] w fun e w' => e = .returned (.agg #[.int .i64 s, .slice p n c]) ∧ Below w.heap.size w w' := by
  go_enter Trym.func36, Trym.ntmps36
  go_wp2
  exact bodyPost_ret (v := .agg #[.int .i64 s, .slice p n c]) (by simp [results, Trym.results36, go_sem]) rfl ⟨rfl, (Below.refl _ _).alloc (Nat.le_refl _) _⟩

/-- All old cells and marks read as before. -/
theorem bcell {W w1 : World} (hb : Below W.heap.size W w1) : (∀ b o, b < W.heap.size → w1.cell? ⟨b, o, none⟩ = W.cell? ⟨b, o, none⟩) ∧ (∀ b o, b < W.heap.size → w1.frozen? ⟨b, o, none⟩ = W.frozen? ⟨b, o, none⟩) :=
  ⟨fun b o h => hb.cell (p := ⟨b, o, none⟩) h, fun b o h => hb.frozen (p := ⟨b, o, none⟩) h⟩

/-- A slice of bytes whose cells lie in blocks from B on. -/
def BLo (B : Nat) (w : World) (p : Option Addr) (n c : Nat) (xs : List Int) : Prop := BSl w p n c xs ∧ (xs ≠ [] → ∀ a, p = some a → B ≤ a.block)

theorem BLo.below {B : Nat} {w w' : World} {p : Option Addr} {n c : Nat} {xs : List Int} (h : BLo B w p n c xs) (hb : Below w.heap.size w w') : BLo B w' p n c xs := ⟨h.1.below hb, h.2⟩
theorem BLo.mono {B B' : Nat} {w : World} {p : Option Addr} {n c : Nat} {xs : List Int} (h : BLo B w p n c xs) (hB : B' ≤ B) : BLo B' w p n c xs := ⟨h.1, fun hn a ha => Nat.le_trans hB (h.2 hn a ha)⟩
theorem BSl.lo {w : World} {p : Option Addr} {n c : Nat} {xs : List Int} (h : BSl w p n c xs) : BLo 0 w p n c xs := ⟨h, fun _ _ _ => Nat.zero_le _⟩

/-- A store into a block below B leaves it as it is. -/
theorem BLo.setCell {B : Nat} {w : World} {p : Option Addr} {n c : Nat} {xs : List Int} (h : BLo B w p n c xs) {a : Addr} (ha : a.block < B) (u : Value) : BLo B (w.setCell a u) p n c xs := by
  refine ⟨⟨h.1.1, ⟨h.1.2.1.1, h.1.2.1.2.1, fun hne => ?_⟩, h.1.2.2⟩, h.2⟩
  obtain ⟨b, o, hp, hc⟩ := h.1.2.1.2.2 hne
  have hB := h.2 hne _ hp
  refine ⟨b, o, hp, fun i hi => ?_⟩
  rw [World.cell?_of_block (w := w) (Below.heap_setCell w a u b (by simp at hB; omega))]
  exact hc i hi

/-- lawCloneBytes in a later world: what it makes is new. -/
theorem clone_from (w0 : World) (p : Option Addr) (n c : Nat) (xs : List Int) (w : World) (hl : n ≤ 1048576) (h : Hid (BSl w0 p n c xs)) (hb : Below w0.heap.size w0 w) :
    Calls Trym.prog 11 #[.slice p n c] w fun e w' => ∃ p' c', e = .returned (.slice p' n c') ∧ Hid (BLo w.heap.size w' p' n c' xs) ∧ Below w.heap.size w w' := by
  have h' := h.out.below hb
  cases p with
  | none =>
    have hx := h'.2.1.1 rfl
    have h0 : n = 0 := by rw [h'.1, hx]; rfl
    subst h0
    refine (clone_nil 0 c w).mono fun e w' ⟨he, hw⟩ => ?_
    subst hw
    exact ⟨none, 0, he, ⟨⟨h'.1, h'.2.1, fun _ => rfl⟩, fun _ a ha => (by cases ha)⟩, Below.refl _ _⟩
  | some a =>
    refine (clone_some a n c xs w h'.1 hl h'.2.1).mono fun e w' ⟨he, ho, hbl⟩ => ?_
    exact ⟨_, _, he, ⟨⟨h'.1, BIn.own ho h'.2.1.2.1, fun h => (by cases h)⟩, fun _ a ha => by cases ha; exact Nat.le_refl _⟩, hbl⟩

/-- Two boxes of three cells that the call has made, as they lie in a later world. -/
def Boxes (w : World) (a0 a1 a2 b0 b1 b2 : Value) (w1 : World) : Prop :=
  (w1.cell? ⟨w.heap.size, 0, none⟩ = some a0 ∧ w1.cell? ⟨w.heap.size, 1, none⟩ = some a1 ∧ w1.cell? ⟨w.heap.size, 2, none⟩ = some a2) ∧
  (w1.cell? ⟨w.heap.size + 1, 0, none⟩ = some b0 ∧ w1.cell? ⟨w.heap.size + 1, 1, none⟩ = some b1 ∧ w1.cell? ⟨w.heap.size + 1, 2, none⟩ = some b2) ∧
  (w1.frozen? ⟨w.heap.size + 1, 0, none⟩ = false ∧ w1.frozen? ⟨w.heap.size + 1, 1, none⟩ = false ∧ w1.frozen? ⟨w.heap.size + 1, 2, none⟩ = false) ∧
  w.heap.size + 1 < w1.heap.size ∧ Below w.heap.size w w1

theorem Boxes.start (w : World) (a0 a1 a2 b0 b1 b2 : Value) (t t' : TypeId) : Boxes w a0 a1 a2 b0 b1 b2 ((w.alloc (.cells #[a0, a1, a2] t)).alloc (.cells #[b0, b1, b2] t')).drew := by
  refine ⟨⟨by simp, by simp, by simp⟩, ⟨by simp, by simp, by simp⟩, ⟨by simp, by simp, by simp⟩, by simp, ?_⟩
  exact (((Below.refl _ _).alloc (Nat.le_refl _) _).alloc (by simp) _).drew

theorem Boxes.below {w : World} {a0 a1 a2 b0 b1 b2 : Value} {w1 w2 : World} (h : Boxes w a0 a1 a2 b0 b1 b2 w1) (hb : Below w1.heap.size w1 w2) : Boxes w a0 a1 a2 b0 b1 b2 w2 := by
  obtain ⟨⟨h0, h1, h2⟩, ⟨k0, k1, k2⟩, ⟨f0, f1, f2⟩, hs, hbl⟩ := h
  obtain ⟨_, hf⟩ := bcell hb
  have hs2 := hb.size
  exact ⟨⟨cell_later hb h0, cell_later hb h1, cell_later hb h2⟩, ⟨cell_later hb k0, cell_later hb k1, cell_later hb k2⟩,
    ⟨by rw [hf _ _ hs]; exact f0, by rw [hf _ _ hs]; exact f1, by rw [hf _ _ hs]; exact f2⟩, by omega, hbl.trans (hb.mono hbl.size)⟩

set_option maxHeartbeats 1000000 in
/-- lawCloneMatch: a match of the same offset and bytes, in new memory. -/
theorem cloneMatch (off : Int) (p1 p2 : Option Addr) (n1 c1 n2 c2 : Nat) (vs ms : List Int) (w : World) (h1 : n1 ≤ 1048576) (h2 : n2 ≤ 1048576) (HV : Hid (BSl w p1 n1 c1 vs)) (HM : Hid (BSl w p2 n2 c2 ms)) :
    Calls Trym.prog 25 #[.agg #[.int .i64 off, .slice p1 n1 c1, .slice p2 n2 c2]] w fun e w' =>
      ∃ q1 d1 q2 d2, e = .returned (.agg #[.int .i64 off, .slice q1 n1 d1, .slice q2 n2 d2]) ∧ Hid (BLo w.heap.size w' q1 n1 d1 vs) ∧ Hid (BLo w.heap.size w' q2 n2 d2 ms) ∧ Below w.heap.size w w' := by
  go_enter Trym.func25, Trym.ntmps25
  go_wp2
  have HB0 : Hid (Boxes w _ _ _ _ _ _ _) := Boxes.start w (.int .i64 off) (.slice p1 n1 c1) (.slice p2 n2 c2) (.int .i64 0) (.slice none 0 0) (.slice none 0 0) 31 31
  go_region_held3 (fun w' => w'.cell? ⟨w.heap.size, 0, none⟩ = some (.int .i64 off) ∧ w'.cell? ⟨w.heap.size, 1, none⟩ = some (.slice p1 n1 c1) ∧ w'.cell? ⟨w.heap.size, 2, none⟩ = some (.slice p2 n2 c2)) (go_keep)
    (first | (go_at_call_of 11 (Value.slice p1 n1 c1); refine (clone_from w _ _ _ _ _ h1 HV ?_).mono ?_; exact HB0.out.2.2.2.2; rintro e w1 ⟨q1, d1, rfl, HV1, hb1⟩; have HB1 : Hid (Boxes w _ _ _ _ _ _ _) := HB0.out.below hb1; obtain ⟨⟨x0, x1, x2⟩, ⟨y0, y1, y2⟩, ⟨z0, z1, z2⟩, hz1, _⟩ := HB1.out; clear hb1) | (go_at_call_of 11 (Value.slice p2 n2 c2); refine (clone_from w _ _ _ _ _ h2 HM ?_).mono ?_; exact HB1.out.2.2.2.2; rintro e w2 ⟨q2, d2, rfl, HM2, hb2⟩; have HB2 : Hid (Boxes w _ _ _ _ _ _ _) := HB1.out.below hb2; have HV2 : Hid (BLo _ w2 q1 n1 d1 vs) := HV1.out.below hb2; obtain ⟨⟨x0', x1', x2'⟩, ⟨y0', y1', y2'⟩, ⟨z0', z1', z2'⟩, hz2, _⟩ := HB2.out; clear hb2))
  go_wp2
  have e1 : BLo (w.heap.size + 2) w2 q1 n1 d1 vs := by simpa using HV2.out
  have e2 : BLo (w.heap.size + 2) w2 q2 n2 d2 ms := HM2.out.mono (by omega)
  have f : ∀ {p : Option Addr} {n c : Nat} {xs : List Int}, BLo (w.heap.size + 2) w2 p n c xs → BLo w.heap.size (((w2.setCell ⟨w.heap.size + 1, 0, none⟩ (.int .i64 off)).setCell ⟨w.heap.size + 1, 1, none⟩ (.slice q1 n1 d1)).setCell ⟨w.heap.size + 1, 2, none⟩ (.slice q2 n2 d2)) p n c xs := fun h =>
    (((h.setCell (by simp) _).setCell (by simp) _).setCell (by simp) _).mono (by omega)
  refine bodyPost_ret (v := .agg #[.int .i64 off, .slice q1 n1 d1, .slice q2 n2 d2]) (by simp [results, Trym.results25, go_sem, y0', y1', y2']) rfl ⟨q1, d1, q2, d2, rfl, f e1, f e2, ?_⟩
  exact ((HB2.out.2.2.2.2.setCell (by simp) _).setCell (by simp) _).setCell (by simp) _

end Go.Proofs.Qxb6000440aMods
