import Derived.Test.Qxb6000440aModsBytes
import Derived.OpenShut
namespace Go.Proofs.Qxb6000440aMods
open Go.RowKit

theorem zz14_yes (p1 p2 : Option Addr) (n c1 m c2 : Nat) (w : World) (h1 : n ≤ 1048576) (h2 : m ≤ 1048576) (hl : n + m ≤ 1048576) :
    Calls Trym.prog 14 #[.slice p1 n c1, .slice p2 m c2] w fun e w' => e = .returned (.bool true) ∧ w' = w := by
  go_enter Trym.func14, Trym.ntmps14
  go_wp2
  go_ret
  exact ⟨rfl, rfl⟩
theorem zz14_no1 (p1 p2 : Option Addr) (n c1 m c2 : Nat) (w : World) (h1 : 1048576 < n) :
    Calls Trym.prog 14 #[.slice p1 n c1, .slice p2 m c2] w fun e w' => e = .returned (.bool false) ∧ w' = w := by
  go_enter Trym.func14, Trym.ntmps14
  go_wp2
  go_ret
  exact ⟨rfl, rfl⟩
theorem zz14_no2 (p1 p2 : Option Addr) (n c1 m c2 : Nat) (w : World) (h1 : n ≤ 1048576) (h2 : 1048576 < m) :
    Calls Trym.prog 14 #[.slice p1 n c1, .slice p2 m c2] w fun e w' => e = .returned (.bool false) ∧ w' = w := by
  go_enter Trym.func14, Trym.ntmps14
  go_wp2
  go_ret
  exact ⟨rfl, rfl⟩
theorem zz14_no3 (p1 p2 : Option Addr) (n c1 m c2 : Nat) (w : World) (h1 : n ≤ 1048576) (h2 : m ≤ 1048576) (hl : 1048576 < n + m) :
    Calls Trym.prog 14 #[.slice p1 n c1, .slice p2 m c2] w fun e w' => e = .returned (.bool false) ∧ w' = w := by
  go_enter Trym.func14, Trym.ntmps14
  go_wp2
  go_ret
  exact ⟨rfl, rfl⟩
theorem zz14_no (p1 p2 : Option Addr) (n c1 m c2 : Nat) (w : World) (h : ¬ (n ≤ 1048576 ∧ m ≤ 1048576 ∧ n + m ≤ 1048576)) :
    Calls Trym.prog 14 #[.slice p1 n c1, .slice p2 m c2] w fun e w' => e = .returned (.bool false) ∧ w' = w := by
  by_cases h1 : n ≤ 1048576
  · by_cases h2 : m ≤ 1048576
    · exact zz14_no3 p1 p2 n c1 m c2 w h1 h2 (by omega)
    · exact zz14_no2 p1 p2 n c1 m c2 w h1 (by omega)
  · exact zz14_no1 p1 p2 n c1 m c2 w (by omega)

theorem zz16_yes (p1 p2 : Option Addr) (n c1 m c2 : Nat) (w : World) (h1 : n ≤ 1048576) (h2 : m ≤ 1048576) (hl : n + m ≤ 1048576) :
    Calls Trym.prog 16 #[.slice p1 n c1, .slice p2 m c2] w fun e w' => e = .returned (.bool true) ∧ w' = w := by
  go_enter Trym.func16, Trym.ntmps16
  go_wp2
  go_ret
  exact ⟨rfl, rfl⟩
theorem zz16_no1 (p1 p2 : Option Addr) (n c1 m c2 : Nat) (w : World) (h1 : 1048576 < n) :
    Calls Trym.prog 16 #[.slice p1 n c1, .slice p2 m c2] w fun e w' => e = .returned (.bool false) ∧ w' = w := by
  go_enter Trym.func16, Trym.ntmps16
  go_wp2
  go_ret
  exact ⟨rfl, rfl⟩
theorem zz16_no2 (p1 p2 : Option Addr) (n c1 m c2 : Nat) (w : World) (h1 : n ≤ 1048576) (h2 : 1048576 < m) :
    Calls Trym.prog 16 #[.slice p1 n c1, .slice p2 m c2] w fun e w' => e = .returned (.bool false) ∧ w' = w := by
  go_enter Trym.func16, Trym.ntmps16
  go_wp2
  go_ret
  exact ⟨rfl, rfl⟩
theorem zz16_no3 (p1 p2 : Option Addr) (n c1 m c2 : Nat) (w : World) (h1 : n ≤ 1048576) (h2 : m ≤ 1048576) (hl : 1048576 < n + m) :
    Calls Trym.prog 16 #[.slice p1 n c1, .slice p2 m c2] w fun e w' => e = .returned (.bool false) ∧ w' = w := by
  go_enter Trym.func16, Trym.ntmps16
  go_wp2
  go_ret
  exact ⟨rfl, rfl⟩
theorem zz16_no (p1 p2 : Option Addr) (n c1 m c2 : Nat) (w : World) (h : ¬ (n ≤ 1048576 ∧ m ≤ 1048576 ∧ n + m ≤ 1048576)) :
    Calls Trym.prog 16 #[.slice p1 n c1, .slice p2 m c2] w fun e w' => e = .returned (.bool false) ∧ w' = w := by
  by_cases h1 : n ≤ 1048576
  · by_cases h2 : m ≤ 1048576
    · exact zz16_no3 p1 p2 n c1 m c2 w h1 h2 (by omega)
    · exact zz16_no2 p1 p2 n c1 m c2 w h1 (by omega)
  · exact zz16_no1 p1 p2 n c1 m c2 w (by omega)

theorem zz19_yes (p : Option Addr) (n c : Nat) (w : World) (hl : n ≤ 1048576) :
    Calls Trym.prog 19 #[.slice p n c] w fun e w' => e = .returned (.bool true) ∧ w' = w := by
  go_enter Trym.func19, Trym.ntmps19
  go_wp2
  go_ret
  exact ⟨rfl, rfl⟩
theorem zz19_no (p : Option Addr) (n c : Nat) (w : World) (hl : 1048576 < n) :
    Calls Trym.prog 19 #[.slice p n c] w fun e w' => e = .returned (.bool false) ∧ w' = w := by
  go_enter Trym.func19, Trym.ntmps19
  go_wp2
  go_ret
  exact ⟨rfl, rfl⟩

/-- A slice of bytes of length n that may be nil only without capacity. -/
def BSl (w : World) (p : Option Addr) (n c : Nat) (xs : List Int) : Prop := n = xs.length ∧ BIn w p xs ∧ (p = none → c = 0)

theorem BSl.below {w w' : World} {p : Option Addr} {n c : Nat} {xs : List Int} (h : BSl w p n c xs) (hb : Below w.heap.size w w') : BSl w' p n c xs := ⟨h.1, h.2.1.below hb, h.2.2⟩

/-- A slice of bytes that came in, as the shells tell it. -/
theorem bsl_of_row {w : World} {a : Option Addr} {len cap : Nat} {zs : List Int}
    (h : (a = none ∧ len = 0 ∧ cap = 0 ∧ zs = []) ∨ ∃ x, a = some x ∧ len ≤ cap ∧ cap ≤ maxLen ∧ zs.length = cap ∧ (∀ i, i < zs.length → w.cell? (x.add i) = some (.int .u8 (zs.getD i 0))) ∧ ∀ n ∈ zs, (Lit.int .u8 n).wf = true) :
    BSl w a len cap (zs.take len) := by
  rcases h with ⟨rfl, rfl, rfl, rfl⟩ | ⟨x, rfl, hl, _, hz, hc, hw⟩
  · exact ⟨rfl, ⟨fun _ => rfl, fun x hx => (by simp at hx), fun h => absurd rfl h⟩, fun _ => rfl⟩
  · have hlen : (zs.take len).length = len := by simp; omega
    refine ⟨hlen.symm, ⟨fun h => (by cases h), fun x hx => bounds_u8 (hw x (List.mem_of_mem_take hx)), fun hne => ?_⟩, fun h => (by cases h)⟩
    have h0 : 0 < len := by
      rcases Nat.eq_zero_or_pos len with h | h
      · subst h; simp at hne
      · exact h
    obtain ⟨b, o, s⟩ := x
    obtain rfl : s = none := by simpa [Addr.add] using World.cell?_spot (hc 0 (by omega))
    refine ⟨b, o, rfl, fun i hi => ?_⟩
    rw [hlen] at hi
    rw [← Go.WideShapes.add_plain, hc i (by omega)]
    rw [List.getD_eq_getElem?_getD, List.getD_eq_getElem?_getD, List.getElem?_take, if_pos hi]

theorem clone_sl (p : Option Addr) (n c : Nat) (xs : List Int) (w : World) (hl : n ≤ 1048576) (h : Hid (BSl w p n c xs)) :
    Calls Trym.prog 11 #[.slice p n c] w fun e w' => ∃ p' c', e = .returned (.slice p' n c') ∧ Hid (BSl w' p' n c' xs) ∧ Below w.heap.size w w' :=
  (clone_any p n c xs w h.out.1 hl h.out.2.1).mono fun _ _ ⟨p', c', he, hb, hc, hbl⟩ => ⟨p', c', he, ⟨h.out.1, hb.out, hc⟩, hbl⟩

theorem suc37 (p : Option Addr) (n c : Nat) (xs : List Int) (w : World) (hl : n ≤ 1048576) (h : Hid (BSl w p n c xs)) :
    Calls Trym.prog 37 #[.slice p n c] w fun e w' => Below w.heap.size w w' ∧ ((allB 255 xs = true ∧ e = .returned (.tuple #[.slice none 0 0, .bool false])) ∨
      ∃ ys p' c', Suc xs ys ∧ e = .returned (.tuple #[.slice p' n c', .bool true]) ∧ BIn w' p' ys) := by
  cases p with
  | none =>
    have hx := h.out.2.1.1 rfl
    have h0 : n = 0 := by rw [h.out.1, hx]; rfl
    have hc : c = 0 := h.out.2.2 rfl
    subst h0
    subst hc
    refine (suc_nil w).mono fun e w' ⟨he, hw⟩ => ?_
    subst hw
    exact ⟨Below.refl _ _, .inl ⟨by rw [hx]; rfl, he⟩⟩
  | some a => exact suc_some a n c xs w h.out.1 hl h.out.2.1

theorem suc_no (p : Option Addr) (n c : Nat) (xs : List Int) (w : World) (hl : n ≤ 1048576) (h : Hid (BSl w p n c xs)) (ha : Hid (allB 255 xs = true)) :
    Calls Trym.prog 12 #[.slice p n c] w fun e w' => e = .returned (.tuple #[.slice none 0 0, .bool false]) ∧ Below w.heap.size w w' := by
  have hcon : Calls Trym.prog 37 #[.slice p n c] w fun e w' => e = .returned (.tuple #[.slice none 0 0, .bool false]) ∧ Below w.heap.size w w' :=
    (suc37 p n c xs w hl h).mono fun _ _ ⟨hb, ho⟩ => by
      rcases ho with ⟨_, he⟩ | ⟨ys, p', c', hs, _⟩
      · exact ⟨he, hb⟩
      · have := not_all_of_suc hs; rw [ha.out] at this; cases this
  go_enter Trym.func12, Trym.ntmps12
  go_wp2_with (go_at_call 37; refine hcon.mono ?_; rintro e w' ⟨rfl, hb⟩)
  go_ret2
  exact ⟨rfl, hb⟩

theorem suc_yes (p : Option Addr) (n c : Nat) (xs : List Int) (w : World) (hl : n ≤ 1048576) (h : Hid (BSl w p n c xs)) (ha : Hid (allB 255 xs = false)) :
    Calls Trym.prog 12 #[.slice p n c] w fun e w' => ∃ ys p' c', e = .returned (.tuple #[.slice p' n c', .bool true]) ∧ Hid (Suc xs ys) ∧ Hid (BSl w' p' n c' ys) ∧ Below w.heap.size w w' := by
  have hcon : Calls Trym.prog 37 #[.slice p n c] w fun e w' => ∃ ys p' c', e = .returned (.tuple #[.slice p' n c', .bool true]) ∧ Hid (Suc xs ys) ∧ Hid (BSl w' p' n c' ys) ∧ Below w.heap.size w w' :=
    (suc37 p n c xs w hl h).mono fun _ _ ⟨hb, ho⟩ => by
      rcases ho with ⟨h', _⟩ | ⟨ys, p', c', hs, he, hin⟩
      · rw [ha.out] at h'; cases h'
      · refine ⟨ys, p', c', he, hs, ⟨by rw [hs.length]; exact h.out.1, hin, fun hp => ?_⟩, hb⟩
        have := hin.1 hp
        obtain ⟨a, x, m, _, rfl, _⟩ := hs
        simp at this
  go_enter Trym.func12, Trym.ntmps12
  go_wp2_with (go_at_call 37; refine hcon.mono ?_; rintro e w' ⟨ys, p', c', rfl, hs, hin, hb⟩)
  go_ret2
  exact ⟨ys, p', c', rfl, hs, hin, hb⟩

theorem pre_yes (p : Option Addr) (n c : Nat) (xs : List Int) (w : World) (hl : n ≤ 1048576) (h : Hid (BSl w p n c xs)) (ha : Hid (allB 0 xs = false)) :
    Calls Trym.prog 18 #[.slice p n c] w fun e w' => ∃ ys p' c', e = .returned (.slice p' n c') ∧ Hid (Suc ys xs) ∧ Hid (BSl w' p' n c' ys) ∧ Below w.heap.size w w' := by
  cases p with
  | none =>
    have hx := h.out.2.1.1 rfl
    have := ha.out
    rw [hx] at this
    cases this
  | some a =>
    have hcon : Calls Trym.prog 38 #[.slice (some a) n c] w fun e w' => ∃ ys p' c', e = .returned (.slice p' n c') ∧ Hid (Suc ys xs) ∧ Hid (BSl w' p' n c' ys) ∧ Below w.heap.size w w' :=
      (pre_some a n c xs w h.out.1 hl h.out.2.1).mono fun _ _ ⟨hb, ys, p', c', hs, he, hin, hlen⟩ => by
        have S := hs ha.out
        refine ⟨ys, p', c', he, S, ⟨hlen.symm, hin, fun hp => ?_⟩, hb⟩
        have := hin.1 hp
        obtain ⟨a, x, m, rfl, _, _⟩ := S
        simp at this
    go_enter Trym.func18, Trym.ntmps18
    go_wp2_with (go_at_call 38; refine hcon.mono ?_; rintro e w' ⟨ys, p', c', rfl, hs, hin, hb⟩)
    go_ret
    exact ⟨ys, p', c', rfl, hs, hin, hb⟩

end Go.Proofs.Qxb6000440aMods
