import Derived.Test.Qxb6000440aModsKeys
import Derived.Test.Qxb6000440aModsOrder
namespace Go.Proofs.Qxb6000440aMods
open Go.RowKit

/-- lawCompare, its answer told by the numbers that the two write. -/
theorem compare_sl (p1 p2 : Option Addr) (n c1 c2 : Nat) (xs ys : List Int) (w : World) (hl : n ≤ 1048576) (h1 : Hid (BSl w p1 n c1 xs)) (h2 : Hid (BSl w p2 n c2 ys)) :
    Calls Trym.prog 15 #[.slice p1 n c1, .slice p2 n c2] w fun e w' => ∃ q : Int, e = .returned (.int .i64 q) ∧ Hid ((q < 0 ↔ val xs < val ys) ∧ (0 < q ↔ val ys < val xs)) ∧ Below w.heap.size w w' :=
  (compare_any p1 p2 n c1 c2 xs ys w h1.out.1 h2.out.1 hl h1.out.2.1 h2.out.2.1).mono fun _ _ ⟨he, hb⟩ =>
    ⟨_, he, cmpB_val xs ys (by rw [← h1.out.1, ← h2.out.1]) h1.out.2.1.2.1 h2.out.2.1.2.1, hb⟩

theorem law2_big (p1 p2 : Option Addr) (n c1 m c2 : Nat) (w : World) (h : ¬ (n ≤ 1048576 ∧ m ≤ 1048576 ∧ n + m ≤ 1048576)) :
    Calls Trym.prog 4 #[.slice p1 n c1, .slice p2 m c2] w fun e w' => e = .returned (.bool true) ∧ Below w.heap.size w w' := by
  have H : Hid (¬ (n ≤ 1048576 ∧ m ≤ 1048576 ∧ n + m ≤ 1048576)) := h
  clear h
  go_enter Trym.func4, Trym.ntmps4
  go_wp2_with (go_at_call 14; refine (zz14_no _ _ _ _ _ _ _ H.out).mono ?_; rintro e w' ⟨rfl, hw'⟩; have hw'' := hw'.symm; subst hw'')
  go_ret
  exact ⟨rfl, Below.refl _ _⟩

theorem law2_other (p1 p2 : Option Addr) (n c1 m c2 : Nat) (w : World) (h1 : n ≤ 1048576) (h2 : m ≤ 1048576) (h3 : n + m ≤ 1048576) (hne : m ≠ n) :
    Calls Trym.prog 4 #[.slice p1 n c1, .slice p2 m c2] w fun e w' => e = .returned (.bool true) ∧ Below w.heap.size w w' := by
  go_enter Trym.func4, Trym.ntmps4
  go_wp2_with (go_at_call 14; refine (zz14_yes _ _ _ _ _ _ _ h1 h2 h3).mono ?_; rintro e w' ⟨rfl, hw'⟩; have hw'' := hw'.symm; subst hw'')
  go_ret
  exact ⟨rfl, Below.refl _ _⟩

set_option maxHeartbeats 400000 in
theorem law2_no (p1 p2 : Option Addr) (n c1 c2 : Nat) (ks js : List Int) (w : World) (h1 : n ≤ 1048576) (h3 : n + n ≤ 1048576) (HK : Hid (BSl w p1 n c1 ks)) (HJ : Hid (BSl w p2 n c2 js)) (HA : Hid (allB 255 ks = true)) :
    Calls Trym.prog 4 #[.slice p1 n c1, .slice p2 n c2] w fun e w' => e = .returned (.bool true) ∧ Below w.heap.size w w' := by
  go_enter Trym.func4, Trym.ntmps4
  go_wp2_with fail
  refine (zz14_yes _ _ _ _ _ _ _ h1 h1 h3).mono ?_
  rintro e w' ⟨rfl, hw'⟩
  have hw'' := hw'.symm
  subst hw''
  go_wp2_with fail
  refine (clone_sl _ _ _ _ _ h1 HK).mono ?_
  rintro e w1 ⟨p1', c1', rfl, HK1, hb1⟩
  have HJ0 : Hid (BSl w1 p2 n c2 js) := HJ.out.below hb1
  go_wp2_with fail
  refine (clone_sl _ _ _ _ _ h1 HJ0).mono ?_
  rintro e w2 ⟨p2', c2', rfl, HJ2, hb2⟩
  have HK2 : Hid (BSl w2 p1' n c1' ks) := HK1.out.below hb2
  go_wp2_with fail
  refine (suc_no _ _ _ _ _ h1 HK2 HA).mono ?_
  rintro e w3 ⟨rfl, hb3⟩
  have HK3 : Hid (BSl w3 p1' n c1' ks) := HK2.out.below hb3
  have HJ3 : Hid (BSl w3 p2' n c2' js) := HJ2.out.below hb3
  go_wp2_with fail
  refine (compare_sl _ _ _ _ _ _ _ _ h1 HJ3 HK3).mono ?_
  rintro e w4 ⟨q, rfl, hq, hb4⟩
  have hq0 : q ≤ 0 := by
    have e1 := val_all255 HA.out
    have e2 := val_range js HJ3.out.2.1.2.1
    rw [← HK3.out.1] at e1
    rw [← HJ3.out.1] at e2
    have := hq.out.2
    omega
  go_wp2
  go_ret
  have b12 := hb1.trans (hb2.mono hb1.size)
  have b13 := b12.trans (hb3.mono b12.size)
  exact ⟨rfl, b13.trans (hb4.mono b13.size)⟩

set_option maxHeartbeats 1000000 in
theorem law2_yes (p1 p2 : Option Addr) (n c1 c2 : Nat) (ks js : List Int) (w : World) (h1 : n ≤ 1048576) (h3 : n + n ≤ 1048576) (HK : Hid (BSl w p1 n c1 ks)) (HJ : Hid (BSl w p2 n c2 js)) (HA : Hid (allB 255 ks = false)) :
    Calls Trym.prog 4 #[.slice p1 n c1, .slice p2 n c2] w fun e w' => e = .returned (.bool true) ∧ Below w.heap.size w w' := by
  go_enter Trym.func4, Trym.ntmps4
  go_wp2_with fail
  refine (zz14_yes _ _ _ _ _ _ _ h1 h1 h3).mono ?_
  rintro e w' ⟨rfl, hw'⟩
  have hw'' := hw'.symm
  subst hw''
  go_wp2_with fail
  refine (clone_sl _ _ _ _ _ h1 HK).mono ?_
  rintro e w1 ⟨p1', c1', rfl, HK1, hb1⟩
  have HJ0 : Hid (BSl w1 p2 n c2 js) := HJ.out.below hb1
  go_wp2_with fail
  refine (clone_sl _ _ _ _ _ h1 HJ0).mono ?_
  rintro e w2 ⟨p2', c2', rfl, HJ2, hb2⟩
  have HK2 : Hid (BSl w2 p1' n c1' ks) := HK1.out.below hb2
  go_wp2_with fail
  refine (suc_yes _ _ _ _ _ h1 HK2 HA).mono ?_
  rintro e w3 ⟨ys, p3, c3, rfl, S, HY3, hb3⟩
  have HK3 : Hid (BSl w3 p1' n c1' ks) := HK2.out.below hb3
  have HJ3 : Hid (BSl w3 p2' n c2' js) := HJ2.out.below hb3
  have b12 := hb1.trans (hb2.mono hb1.size)
  have b13 := b12.trans (hb3.mono b12.size)
  have HB : Hid (Below w.heap.size w w3) := b13
  clear b12 b13 hb1 hb2 hb3 HJ0 HK1 HK2 HJ2
  go_wp2_with fail
  refine (compare_sl _ _ _ _ _ _ _ _ h1 HY3 HK3).mono ?_
  rintro e w4 ⟨q, rfl, hq, hb4⟩
  have hq0 : 0 < q := by
    have e1 := S.out.val
    have := hq.out.2
    omega
  have HY4 : Hid (BSl w4 p3 n c3 ys) := HY3.out.below hb4
  have HK4 : Hid (BSl w4 p1' n c1' ks) := HK3.out.below hb4
  have HJ4 : Hid (BSl w4 p2' n c2' js) := HJ3.out.below hb4
  have HB4 : Hid (Below w.heap.size w w4) := HB.out.trans (hb4.mono HB.out.size)
  clear hb4
  go_wp2_with fail
  refine (compare_sl _ _ _ _ _ _ _ _ h1 HJ4 HK4).mono ?_
  rintro e w5 ⟨r, rfl, hr, hb5⟩
  have HY5 : Hid (BSl w5 p3 n c3 ys) := HY4.out.below hb5
  have HJ5 : Hid (BSl w5 p2' n c2' js) := HJ4.out.below hb5
  have HB5 : Hid (Below w.heap.size w w5) := HB4.out.trans (hb5.mono HB4.out.size)
  clear hb5
  by_cases hr0 : 0 < r
  · go_wp2_with fail
    refine (compare_sl _ _ _ _ _ _ _ _ h1 HJ5 HY5).mono ?_
    rintro e w6 ⟨t, rfl, ht, hb6⟩
    have ht0 : 0 ≤ t := by
      have e1 := S.out.val
      have e2 := hr.out.2
      have e3 := ht.out.1
      omega
    go_wp2
    go_ret
    exact ⟨rfl, HB5.out.trans (hb6.mono HB5.out.size)⟩
  · go_wp2
    go_ret
    exact ⟨rfl, HB5.out⟩

theorem law2 (p1 p2 : Option Addr) (n c1 m c2 : Nat) (ks js : List Int) (w : World) (HK : BSl w p1 n c1 ks) (HJ : BSl w p2 m c2 js) :
    Calls Trym.prog 4 #[.slice p1 n c1, .slice p2 m c2] w fun e w' => e = .returned (.bool true) ∧ Below w.heap.size w w' := by
  by_cases h : n ≤ 1048576 ∧ m ≤ 1048576 ∧ n + m ≤ 1048576
  · by_cases hm : m = n
    · subst hm
      cases ha : allB 255 ks
      · exact law2_yes p1 p2 m c1 c2 ks js w h.1 h.2.2 HK HJ ha
      · exact law2_no p1 p2 m c1 c2 ks js w h.1 h.2.2 HK HJ ha
    · exact law2_other p1 p2 n c1 m c2 w h.1 h.2.1 h.2.2 hm
  · exact law2_big p1 p2 n c1 m c2 w h

end Go.Proofs.Qxb6000440aMods
