import Derived.Test.Qxb6000440aModsLaw2
namespace Go.Proofs.Qxb6000440aMods
open Go.RowKit

theorem law3_big (p1 p2 : Option Addr) (n c1 m c2 : Nat) (w : World) (h : ¬ (n ≤ 1048576 ∧ m ≤ 1048576 ∧ n + m ≤ 1048576)) :
    Calls Trym.prog 5 #[.slice p1 n c1, .slice p2 m c2] w fun e w' => e = .returned (.bool true) ∧ Below w.heap.size w w' := by
  have H : Hid (¬ (n ≤ 1048576 ∧ m ≤ 1048576 ∧ n + m ≤ 1048576)) := h
  clear h
  go_enter Trym.func5, Trym.ntmps5
  go_wp2_with (go_at_call 16; refine (zz16_no _ _ _ _ _ _ _ H.out).mono ?_; rintro e w' ⟨rfl, hw'⟩; have hw'' := hw'.symm; subst hw'')
  go_ret
  exact ⟨rfl, Below.refl _ _⟩

theorem law3_other (p1 p2 : Option Addr) (n c1 m c2 : Nat) (w : World) (h1 : n ≤ 1048576) (h2 : m ≤ 1048576) (h3 : n + m ≤ 1048576) (hne : m ≠ n) :
    Calls Trym.prog 5 #[.slice p1 n c1, .slice p2 m c2] w fun e w' => e = .returned (.bool true) ∧ Below w.heap.size w w' := by
  go_enter Trym.func5, Trym.ntmps5
  go_wp2_with (go_at_call 16; refine (zz16_yes _ _ _ _ _ _ _ h1 h2 h3).mono ?_; rintro e w' ⟨rfl, hw'⟩; have hw'' := hw'.symm; subst hw'')
  go_ret
  exact ⟨rfl, Below.refl _ _⟩

theorem law3_zero (p1 p2 : Option Addr) (n c1 c2 : Nat) (ks : List Int) (w : World) (h1 : n ≤ 1048576) (h3 : n + n ≤ 1048576) (HK : Hid (BSl w p1 n c1 ks)) (HA : Hid (allB 0 ks = true)) :
    Calls Trym.prog 5 #[.slice p1 n c1, .slice p2 n c2] w fun e w' => e = .returned (.bool true) ∧ Below w.heap.size w w' := by
  go_enter Trym.func5, Trym.ntmps5
  go_wp2_with fail
  refine (zz16_yes _ _ _ _ _ _ _ h1 h1 h3).mono ?_
  rintro e w' ⟨rfl, hw'⟩
  have hw'' := hw'.symm
  subst hw''
  go_wp2_with fail
  refine (allZero_any _ _ _ ks _ HK.out.1 h1 HK.out.2.1).mono ?_
  rintro e w' ⟨rfl, hw'⟩
  have hw'' := hw'.symm
  subst hw''
  rw [HA.out]
  go_wp2
  go_ret
  exact ⟨rfl, Below.refl _ _⟩

set_option maxHeartbeats 1000000 in
theorem law3_yes (p1 p2 : Option Addr) (n c1 c2 : Nat) (ks js : List Int) (w : World) (h1 : n ≤ 1048576) (h3 : n + n ≤ 1048576) (HK : Hid (BSl w p1 n c1 ks)) (HJ : Hid (BSl w p2 n c2 js)) (HA : Hid (allB 0 ks = false)) :
    Calls Trym.prog 5 #[.slice p1 n c1, .slice p2 n c2] w fun e w' => e = .returned (.bool true) ∧ Below w.heap.size w w' := by
  go_enter Trym.func5, Trym.ntmps5
  go_wp2_with fail
  refine (zz16_yes _ _ _ _ _ _ _ h1 h1 h3).mono ?_
  rintro e w' ⟨rfl, hw'⟩
  have hw'' := hw'.symm
  subst hw''
  go_wp2_with fail
  refine (allZero_any _ _ _ ks _ HK.out.1 h1 HK.out.2.1).mono ?_
  rintro e w' ⟨rfl, hw'⟩
  have hw'' := hw'.symm
  subst hw''
  rw [HA.out]
  go_wp2_with fail
  refine (clone_sl _ _ _ _ _ h1 HK).mono ?_
  rintro e w1 ⟨p1', c1', rfl, HK1, hb1⟩
  have HJ0 : Hid (BSl w1 p2 n c2 js) := HJ.out.below hb1
  go_wp2_with fail
  refine (clone_sl _ _ _ _ _ h1 HJ0).mono ?_
  rintro e w2 ⟨p2', c2', rfl, HJ2, hb2⟩
  have HK2 : Hid (BSl w2 p1' n c1' ks) := HK1.out.below hb2
  go_wp2_with fail
  refine (pre_yes _ _ _ _ _ h1 HK2 HA).mono ?_
  rintro e w3 ⟨ys, p3, c3, rfl, S, HY3, hb3⟩
  have HK3 : Hid (BSl w3 p1' n c1' ks) := HK2.out.below hb3
  have HJ3 : Hid (BSl w3 p2' n c2' js) := HJ2.out.below hb3
  have b12 := hb1.trans (hb2.mono hb1.size)
  have b13 := b12.trans (hb3.mono b12.size)
  have HB : Hid (Below w.heap.size w w3) := b13
  clear b12 b13 hb1 hb2 hb3 HJ0 HK1 HK2 HJ2
  go_wp2_with fail
  refine (compare_sl _ _ _ _ _ _ _ _ h1 HY3 HK3).mono ?_
  rintro e w4 ⟨q, rfl, hq, hb4⟩
  have hq0 : q < 0 := by
    have e1 := S.out.val
    have := hq.out.1
    omega
  have HY4 : Hid (BSl w4 p3 n c3 ys) := HY3.out.below hb4
  have HK4 : Hid (BSl w4 p1' n c1' ks) := HK3.out.below hb4
  have HJ4 : Hid (BSl w4 p2' n c2' js) := HJ3.out.below hb4
  have HB4 : Hid (Below w.heap.size w w4) := HB.out.trans (hb4.mono HB.out.size)
  clear hb4
  go_wp2_with fail
  refine (compare_sl _ _ _ _ _ _ _ _ h1 HJ4 HK4).mono ?_
  rintro e w5 ⟨r, rfl, hr, hb5⟩
  have HY5 : Hid (BSl w5 p3 n c3 ys) := HY4.out.below hb5
  have HJ5 : Hid (BSl w5 p2' n c2' js) := HJ4.out.below hb5
  have HB5 : Hid (Below w.heap.size w w5) := HB4.out.trans (hb5.mono HB4.out.size)
  clear hb5
  by_cases hr0 : r < 0
  · go_wp2_with fail
    refine (compare_sl _ _ _ _ _ _ _ _ h1 HJ5 HY5).mono ?_
    rintro e w6 ⟨t, rfl, ht, hb6⟩
    have ht0 : t ≤ 0 := by
      have e1 := S.out.val
      have e2 := hr.out.1
      have e3 := ht.out.2
      omega
    go_wp2
    go_ret
    exact ⟨rfl, HB5.out.trans (hb6.mono HB5.out.size)⟩
  · go_wp2
    go_ret
    exact ⟨rfl, HB5.out⟩

theorem law3 (p1 p2 : Option Addr) (n c1 m c2 : Nat) (ks js : List Int) (w : World) (HK : BSl w p1 n c1 ks) (HJ : BSl w p2 m c2 js) :
    Calls Trym.prog 5 #[.slice p1 n c1, .slice p2 m c2] w fun e w' => e = .returned (.bool true) ∧ Below w.heap.size w w' := by
  by_cases h : n ≤ 1048576 ∧ m ≤ 1048576 ∧ n + m ≤ 1048576
  · by_cases hm : m = n
    · subst hm
      cases ha : allB 0 ks
      · exact law3_yes p1 p2 m c1 c2 ks js w h.1 h.2.2 HK HJ ha
      · exact law3_zero p1 p2 m c1 c2 ks w h.1 h.2.2 HK ha
    · exact law3_other p1 p2 n c1 m c2 w h.1 h.2.1 h.2.2 hm
  · exact law3_big p1 p2 n c1 m c2 w h

end Go.Proofs.Qxb6000440aMods
