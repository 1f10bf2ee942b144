/-
  ZZFieldsAt and lawSameFields, by their contracts.
-/
import Derived.Test.Qxb6000440aModsFieldsAt
import Derived.Test.Qxb6000440aModsLaw4
namespace Go.Proofs.Qxb6000440aMods
open Go.RowKit

theorem WsAt.mono {B B' : Nat} {w : World} {p : Option Addr} {n : Nat} {ws : List (Int × List Mt)} (h : WsAt B w p n ws) (hB : B' ≤ B) : WsAt B' w p n ws :=
  ⟨h.1, fun i r hr => by
    obtain ⟨b, o, p', n', c', hp, hb, hc, hm⟩ := h.2 i r hr
    exact ⟨b, o, p', n', c', hp, Nat.le_trans hB hb, hc, hm.mono hB⟩⟩

theorem WsAt.setCell {B : Nat} {w : World} {p : Option Addr} {n : Nat} {ws : List (Int × List Mt)} (h : WsAt B w p n ws) {a : Addr} (ha : a.block < B) (u : Value) : WsAt B (w.setCell a u) p n ws :=
  ⟨h.1, fun i r hr => by
    obtain ⟨b, o, p', n', c', hp, hb, ⟨h0, h1⟩, hm⟩ := h.2 i r hr
    exact ⟨b, o, p', n', c', hp, hb, ⟨cell_far h0 (by omega), cell_far h1 (by omega)⟩, hm.setCell ha u⟩⟩

/-- ZZFieldsAt in a later world. -/
theorem fieldsAt26 (w0 : World) (p : Option Addr) (n c : Nat) (ws : List (Int × List Mt)) (off : Int) (p1 p2 : Option Addr) (n1 c1 n2 c2 : Nat) (msk : List Int) (w : World) (hn : n ≤ 1048577) (hn2 : n2 ≤ 1048576) (HOK : Hid (RtOk ws)) (HW : Hid (WsAt 0 w0 p n ws)) (HM : Hid (BSl w0 p2 n2 c2 msk)) (hb : Below w0.heap.size w0 w) :
    Calls Trym.prog 26 #[.slice p n c, .agg #[.int .i64 off, .slice p1 n1 c1, .slice p2 n2 c2]] w fun e w' => ∃ p' n' c', e = .returned (.slice p' n' c') ∧ Hid (FldAt w' p' n' (fieldsOf off msk ws)) ∧ Below w.heap.size w w' := by
  have HB : Hid (Below w0.heap.size w0 w) := hb
  clear hb
  have HA : Hid (Below w.heap.size w (w.alloc (.cells #[.int .i64 off, .slice p1 n1 c1, .slice p2 n2 c2] 43))) := (Below.refl _ _).alloc (Nat.le_refl _) _
  have HW1 : Hid (WsAt 0 (w.alloc (.cells #[.int .i64 off, .slice p1 n1 c1, .slice p2 n2 c2] 43)) p n ws) := (HW.out.below HB.out).below HA.out
  have HM1 : Hid (BSl (w.alloc (.cells #[.int .i64 off, .slice p1 n1 c1, .slice p2 n2 c2] 43)) p2 n2 c2 msk) := (HM.out.below HB.out).below HA.out
  go_enter Trym.func26, Trym.ntmps26
  go_wp2_with fail
  refine (fieldsAt39 p n c ws off p1 p2 n1 c1 n2 c2 msk _ hn hn2 HOK HW1 HM1).mono ?_
  rintro e w' ⟨p', c', rfl, HF, hb'⟩
  have HF' : Hid (FldAt w' p' (fieldsOf off msk ws).length (fieldsOf off msk ws)) := HF
  have HBE : Hid (Below w.heap.size w w') := HA.out.trans (hb'.mono (by simp))
  clear HF hb'
  obtain ⟨nf, hnf⟩ : ∃ k, k = (fieldsOf off msk ws).length := ⟨_, rfl⟩
  rw [← hnf] at HF' ⊢
  clear hnf
  go_wp2
  go_ret
  exact ⟨p', nf, c', rfl, HF', HBE.out⟩

theorem foffB (off : Int) (p : Option Addr) (n c : Nat) (w : World) : Calls Trym.prog 29 #[.agg #[.int .i64 off, .slice p n c]] w fun e w' => e = .returned (.int .i64 off) ∧ Below w.heap.size w w' :=
  (foff off p n c w).mono fun _ _ ⟨he, hw⟩ => ⟨he, by rw [hw]; exact (Below.refl _ _).alloc (Nat.le_refl _) _⟩
theorem fmaskB (off : Int) (p : Option Addr) (n c : Nat) (w : World) : Calls Trym.prog 30 #[.agg #[.int .i64 off, .slice p n c]] w fun e w' => e = .returned (.slice p n c) ∧ Below w.heap.size w w' :=
  (fmask off p n c w).mono fun _ _ ⟨he, hw⟩ => ⟨he, by rw [hw]; exact (Below.refl _ _).alloc (Nat.le_refl _) _⟩

/-- Field i, and where it lies. -/
theorem FldAt.get {w : World} {p : Option Addr} {n : Nat} {fs : List (Int × List Int)} (h : FldAt w p n fs) {i : Nat} (hi : i < n) :
    ∃ off xs b o p' n' c', Hid (fs[i]? = some (off, xs)) ∧ p = some ⟨b, o, none⟩ ∧ w.cell? ⟨b, o + i * 2, none⟩ = some (.int .i64 off) ∧ w.cell? ⟨b, o + i * 2 + 1, none⟩ = some (.slice p' n' c') ∧ Hid (BSl w p' n' c' xs) := by
  obtain ⟨⟨off, xs⟩, hf⟩ := getSome h.1 hi
  obtain ⟨b, o, p', n', c', hp, ⟨h0, h1⟩, k⟩ := h.2 i _ hf
  exact ⟨off, xs, b, o, p', n', c', hf, hp, h0, h1, k⟩

set_option maxHeartbeats 2000000 in
set_option maxRecDepth 100000 in
/-- lawSameFields at two slices of the same fields. -/
theorem sameFields (pa pb : Option Addr) (n ca cb : Nat) (fs : List (Int × List Int)) (w : World) (hn : n ≤ 2) (HL : Hid (∀ f ∈ fs, f.2.length ≤ 1048576)) (HA : Hid (FldAt w pa n fs)) (HB : Hid (FldAt w pb n fs)) :
    Calls Trym.prog 34 #[.slice pa n ca, .slice pb n cb] w fun e w' => e = .returned (.bool true) ∧ Below w.heap.size w w' := by
  go_enter Trym.func34, Trym.ntmps34
  go_wp2
  go_loopw [5] (fun i wr => ∃ k : Nat, k ≤ n ∧ i = .int .i64 k ∧ Hid (Below w.heap.size w wr)) (fun i _ => n - (intOf i).toNat)
  case atStart => exact ⟨0, Nat.zero_le _, rfl, Below.refl _ _⟩
  case round =>
    rename World => wr
    obtain ⟨k, hk, rfl, HBw⟩ := hrel
    by_cases hlt : k < n
    · obtain ⟨off, xs, b, o, p', n', c', HF, rfl, A0, A1, HX⟩ := (HA.out.below HBw.out).get hlt
      obtain ⟨off2, xs2, b2, o2, q', m', d', HF2, rfl, B0, B1, HY⟩ := (HB.out.below HBw.out).get hlt
      have e2 : off2 = off ∧ xs2 = xs := by
        have := HF.out.symm.trans HF2.out
        simp only [Option.some.injEq, Prod.mk.injEq] at this
        exact ⟨this.1.symm, this.2.symm⟩
      obtain ⟨rfl, rfl⟩ := e2
      have em : m' = n' := by rw [HX.out.1, HY.out.1]
      subst em
      have hl : m' ≤ 1048576 := by rw [HX.out.1]; exact HL.out _ (List.mem_of_getElem? HF.out)
      have SK : Hid (∀ w', Below wr.heap.size wr w' → (w'.cell? ⟨b, o + k * 2, none⟩ = some (.int .i64 off2) ∧ w'.cell? ⟨b, o + k * 2 + 1, none⟩ = some (.slice p' m' c')) ∧ (w'.cell? ⟨b2, o2 + k * 2, none⟩ = some (.int .i64 off2) ∧ w'.cell? ⟨b2, o2 + k * 2 + 1, none⟩ = some (.slice q' m' d'))) := fun _ hb => ⟨⟨cell_later hb A0, cell_later hb A1⟩, ⟨cell_later hb B0, cell_later hb B1⟩⟩
      go_wp2
      go_region_held3 (fun w' => (w'.cell? ⟨b, o + k * 2, none⟩ = some (.int .i64 off2) ∧ w'.cell? ⟨b, o + k * 2 + 1, none⟩ = some (.slice p' m' c')) ∧ (w'.cell? ⟨b2, o2 + k * 2, none⟩ = some (.int .i64 off2) ∧ w'.cell? ⟨b2, o2 + k * 2 + 1, none⟩ = some (.slice q' m' d'))) (first | exact SK.out _ HB2.out | exact SK.out _ HB1.out | exact SK.out _ (Below.refl _ _).drew)
        (first | (go_at_call 29; have h0 := HB1; refine (foffB _ _ _ _ _).mono ?_; rintro e w2 ⟨rfl, hb2⟩; have HB2 : Hid (Below wr.heap.size wr w2) := HB1.out.trans (hb2.mono HB1.out.size); clear hb2 h0) | (go_at_call 29; refine (foffB _ _ _ _ _).mono ?_; rintro e w1 ⟨rfl, hb1⟩; have HB1 : Hid (Below wr.heap.size wr w1) := (Below.refl _ _).drew.trans (hb1.mono (by simp)); clear hb1))
      have hS2 := SK.out _ HB2.out
      obtain ⟨⟨C0, C1⟩, D0, D1⟩ := hS2
      clear A0 A1 B0 B1
      go_wp2
      go_region_held3 (fun w' => (w'.cell? ⟨b, o + k * 2, none⟩ = some (.int .i64 off2) ∧ w'.cell? ⟨b, o + k * 2 + 1, none⟩ = some (.slice p' m' c')) ∧ (w'.cell? ⟨b2, o2 + k * 2, none⟩ = some (.int .i64 off2) ∧ w'.cell? ⟨b2, o2 + k * 2 + 1, none⟩ = some (.slice q' m' d'))) (first | exact SK.out _ HB5.out | exact SK.out _ HB4.out | exact SK.out _ HB3.out | exact SK.out _ HB2.out.drew)
        (first | (go_at_call 30; have h0 := HB3; refine (fmaskB _ _ _ _ _).mono ?_; rintro e w4 ⟨rfl, hb4⟩; have HB4 : Hid (Below wr.heap.size wr w4) := HB3.out.trans (hb4.mono HB3.out.size); clear hb4 h0) | (go_at_call 30; refine (fmaskB _ _ _ _ _).mono ?_; rintro e w3 ⟨rfl, hb3⟩; have HB3 : Hid (Below wr.heap.size wr w3) := HB2.out.drew.trans (hb3.mono HB2.out.size); clear hb3) | (go_at_call 20; refine (equal_yes _ _ _ _ _ xs2 xs2 _ hl (HX.out.below HB4.out) (HY.out.below HB4.out) rfl).mono ?_; rintro e w5 ⟨rfl, hb5⟩; have HB5 : Hid (Below wr.heap.size wr w5) := HB4.out.trans (hb5.mono HB4.out.size); clear hb5))
      go_wp2
      go_roundw
      case rel => exact ⟨k + 1, by omega, by go_num, HBw.out.trans (HB5.out.mono HBw.out.size)⟩
      case measure => simp [intOf]; omega
    · go_wp2
      go_ret
      exact ⟨rfl, HBw.out⟩

end Go.Proofs.Qxb6000440aMods
