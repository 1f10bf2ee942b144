import Derived.Test.Qxb6000440aModsKeys
import Derived.Test.Qxb6000440aModsOrder
namespace Go.Proofs.Qxb6000440aMods
open Go.RowKit

/-- lawBytesEqual at two slices that hold the same bytes. -/
theorem equal_yes (p1 p2 : Option Addr) (n c1 c2 : Nat) (xs ys : List Int) (w : World) (hl : n ≤ 1048576) (h1 : Hid (BSl w p1 n c1 xs)) (h2 : Hid (BSl w p2 n c2 ys)) (h : Hid (xs = ys)) :
    Calls Trym.prog 20 #[.slice p1 n c1, .slice p2 n c2] w fun e w' => e = .returned (.bool true) ∧ Below w.heap.size w w' :=
  (equal_any p1 p2 n c1 c2 xs ys w h1.out.1 h2.out.1 hl h1.out.2.1 h2.out.2.1).mono fun _ _ ⟨he, hb⟩ => ⟨by rw [he, decide_eq_true h.out], hb⟩

theorem Suc.inj {xs ys zs : List Int} (h : Suc xs zs) (k : Suc ys zs) (hx : ∀ x ∈ xs, 0 ≤ x ∧ x ≤ 255) (hy : ∀ y ∈ ys, 0 ≤ y ∧ y ≤ 255) : xs = ys :=
  val_inj xs ys (by rw [← h.length, ← k.length]) hx hy (by have := h.val; have := k.val; omega)

theorem Suc.same {xs ys zs : List Int} (h : Suc xs ys) (k : Suc xs zs) (hy : ∀ y ∈ ys, 0 ≤ y ∧ y ≤ 255) (hz : ∀ z ∈ zs, 0 ≤ z ∧ z ≤ 255) : ys = zs :=
  val_inj ys zs (by rw [h.length, k.length]) hy hz (by have := h.val; have := k.val; omega)

theorem law4_big (p : Option Addr) (n c : Nat) (w : World) (hl : ¬ n ≤ 1048576) :
    Calls Trym.prog 6 #[.slice p n c] w fun e w' => e = .returned (.bool true) ∧ Below w.heap.size w w' := by
  go_enter Trym.func6, Trym.ntmps6
  go_wp2_with (go_at_call 19; refine (zz19_no _ _ _ _ (by omega)).mono ?_; rintro e w' ⟨rfl, hw'⟩; have hw'' := hw'.symm; subst hw'')
  go_ret
  exact ⟨rfl, Below.refl _ _⟩

set_option maxHeartbeats 1000000 in
theorem law4_no_zero (p : Option Addr) (n c : Nat) (ks : List Int) (w : World) (hl : n ≤ 1048576) (HK : Hid (BSl w p n c ks)) (HA : Hid (allB 255 ks = true)) (HZ : Hid (allB 0 ks = true)) :
    Calls Trym.prog 6 #[.slice p n c] w fun e w' => e = .returned (.bool true) ∧ Below w.heap.size w w' := by
  go_enter Trym.func6, Trym.ntmps6
  go_wp2_with fail
  refine (zz19_yes _ _ _ _ hl).mono ?_
  rintro e w' ⟨rfl, hw'⟩
  have hw'' := hw'.symm
  subst hw''
  go_wp2_with fail
  refine (clone_sl _ _ _ _ _ hl HK).mono ?_
  rintro e w1 ⟨p1, c1, rfl, HK1, hb1⟩
  go_wp2_with fail
  refine (suc_no _ _ _ _ _ hl HK1 HA).mono ?_
  rintro e w2 ⟨rfl, hb2⟩
  have HK2 : Hid (BSl w2 p1 n c1 ks) := HK1.out.below hb2
  go_wp2_with fail
  refine (allZero_any _ _ _ ks _ HK2.out.1 hl HK2.out.2.1).mono ?_
  rintro e w' ⟨rfl, hw'⟩
  have hw'' := hw'.symm
  subst hw''
  rw [HZ.out]
  go_wp2
  go_ret
  exact ⟨rfl, hb1.trans (hb2.mono hb1.size)⟩

set_option maxHeartbeats 1000000 in
theorem law4_no (p : Option Addr) (n c : Nat) (ks : List Int) (w : World) (hl : n ≤ 1048576) (HK : Hid (BSl w p n c ks)) (HA : Hid (allB 255 ks = true)) (HZ : Hid (allB 0 ks = false)) :
    Calls Trym.prog 6 #[.slice p n c] w fun e w' => e = .returned (.bool true) ∧ Below w.heap.size w w' := by
  go_enter Trym.func6, Trym.ntmps6
  go_wp2_with fail
  refine (zz19_yes _ _ _ _ hl).mono ?_
  rintro e w' ⟨rfl, hw'⟩
  have hw'' := hw'.symm
  subst hw''
  go_wp2_with fail
  refine (clone_sl _ _ _ _ _ hl HK).mono ?_
  rintro e w1 ⟨p1, c1, rfl, HK1, hb1⟩
  go_wp2_with fail
  refine (suc_no _ _ _ _ _ hl HK1 HA).mono ?_
  rintro e w2 ⟨rfl, hb2⟩
  have HK2 : Hid (BSl w2 p1 n c1 ks) := HK1.out.below hb2
  have HB2 : Hid (Below w.heap.size w w2) := hb1.trans (hb2.mono hb1.size)
  clear hb1 hb2
  go_wp2_with fail
  refine (allZero_any _ _ _ ks _ HK2.out.1 hl HK2.out.2.1).mono ?_
  rintro e w' ⟨rfl, hw'⟩
  have hw'' := hw'.symm
  subst hw''
  rw [HZ.out]
  go_wp2_with fail
  refine (pre_yes _ _ _ _ _ hl HK2 HZ).mono ?_
  rintro e w3 ⟨bs, p3, c3, rfl, SB, HB3, hb3⟩
  have HK3 : Hid (BSl w3 p1 n c1 ks) := HK2.out.below hb3
  have HBB3 : Hid (Below w.heap.size w w3) := HB2.out.trans (hb3.mono HB2.out.size)
  clear hb3
  have HNA : Hid (allB 255 bs = false) := not_all_of_suc SB.out
  go_wp2_with fail
  refine (suc_yes _ _ _ _ _ hl HB3 HNA).mono ?_
  rintro e w4 ⟨gs, p4, c4, rfl, SA, HA4, hb4⟩
  have HK4 : Hid (BSl w4 p1 n c1 ks) := HK3.out.below hb4
  have HBB4 : Hid (Below w.heap.size w w4) := HBB3.out.trans (hb4.mono HBB3.out.size)
  clear hb4
  have HE : Hid (gs = ks) := SA.out.same SB.out HA4.out.2.1.2.1 HK4.out.2.1.2.1
  go_wp2_with fail
  refine (equal_yes _ _ _ _ _ _ _ _ hl HA4 HK4 HE).mono ?_
  rintro e w5 ⟨rfl, hb5⟩
  go_wp2
  go_ret
  exact ⟨rfl, HBB4.out.trans (hb5.mono HBB4.out.size)⟩

set_option maxHeartbeats 1000000 in
theorem law4_yes_zero (p : Option Addr) (n c : Nat) (ks : List Int) (w : World) (hl : n ≤ 1048576) (HK : Hid (BSl w p n c ks)) (HA : Hid (allB 255 ks = false)) (HZ : Hid (allB 0 ks = true)) :
    Calls Trym.prog 6 #[.slice p n c] w fun e w' => e = .returned (.bool true) ∧ Below w.heap.size w w' := by
  go_enter Trym.func6, Trym.ntmps6
  go_wp2_with fail
  refine (zz19_yes _ _ _ _ hl).mono ?_
  rintro e w' ⟨rfl, hw'⟩
  have hw'' := hw'.symm
  subst hw''
  go_wp2_with fail
  refine (clone_sl _ _ _ _ _ hl HK).mono ?_
  rintro e w1 ⟨p1, c1, rfl, HK1, hb1⟩
  go_wp2_with fail
  refine (suc_yes _ _ _ _ _ hl HK1 HA).mono ?_
  rintro e w2 ⟨ys, p2, c2, rfl, S, HY2, hb2⟩
  have HK2 : Hid (BSl w2 p1 n c1 ks) := HK1.out.below hb2
  have HB2 : Hid (Below w.heap.size w w2) := hb1.trans (hb2.mono hb1.size)
  clear hb1 hb2
  have HN : Hid (allB 0 ys = false) := not_zero_of_suc S.out
  go_wp2_with fail
  refine (pre_yes _ _ _ _ _ hl HY2 HN).mono ?_
  rintro e w3 ⟨bs, p3, c3, rfl, SB, HB3, hb3⟩
  have HK3 : Hid (BSl w3 p1 n c1 ks) := HK2.out.below hb3
  have HBB3 : Hid (Below w.heap.size w w3) := HB2.out.trans (hb3.mono HB2.out.size)
  clear hb3
  have HE : Hid (bs = ks) := SB.out.inj S.out HB3.out.2.1.2.1 HK3.out.2.1.2.1
  go_wp2_with fail
  refine (equal_yes _ _ _ _ _ _ _ _ hl HB3 HK3 HE).mono ?_
  rintro e w4 ⟨rfl, hb4⟩
  have HK4 : Hid (BSl w4 p1 n c1 ks) := HK3.out.below hb4
  have HBB4 : Hid (Below w.heap.size w w4) := HBB3.out.trans (hb4.mono HBB3.out.size)
  clear hb4
  go_wp2_with fail
  refine (allZero_any _ _ _ ks _ HK4.out.1 hl HK4.out.2.1).mono ?_
  rintro e w' ⟨rfl, hw'⟩
  have hw'' := hw'.symm
  subst hw''
  rw [HZ.out]
  go_wp2
  go_ret
  exact ⟨rfl, HBB4.out⟩

set_option maxHeartbeats 1000000 in
theorem law4_yes (p : Option Addr) (n c : Nat) (ks : List Int) (w : World) (hl : n ≤ 1048576) (HK : Hid (BSl w p n c ks)) (HA : Hid (allB 255 ks = false)) (HZ : Hid (allB 0 ks = false)) :
    Calls Trym.prog 6 #[.slice p n c] w fun e w' => e = .returned (.bool true) ∧ Below w.heap.size w w' := by
  go_enter Trym.func6, Trym.ntmps6
  go_wp2_with fail
  refine (zz19_yes _ _ _ _ hl).mono ?_
  rintro e w' ⟨rfl, hw'⟩
  have hw'' := hw'.symm
  subst hw''
  go_wp2_with fail
  refine (clone_sl _ _ _ _ _ hl HK).mono ?_
  rintro e w1 ⟨p1, c1, rfl, HK1, hb1⟩
  go_wp2_with fail
  refine (suc_yes _ _ _ _ _ hl HK1 HA).mono ?_
  rintro e w2 ⟨ys, p2, c2, rfl, S, HY2, hb2⟩
  have HK2 : Hid (BSl w2 p1 n c1 ks) := HK1.out.below hb2
  have HB2 : Hid (Below w.heap.size w w2) := hb1.trans (hb2.mono hb1.size)
  clear hb1 hb2
  have HN : Hid (allB 0 ys = false) := not_zero_of_suc S.out
  go_wp2_with fail
  refine (pre_yes _ _ _ _ _ hl HY2 HN).mono ?_
  rintro e w3 ⟨bs, p3, c3, rfl, SB, HB3, hb3⟩
  have HK3 : Hid (BSl w3 p1 n c1 ks) := HK2.out.below hb3
  have HBB3 : Hid (Below w.heap.size w w3) := HB2.out.trans (hb3.mono HB2.out.size)
  clear hb3
  have HE : Hid (bs = ks) := SB.out.inj S.out HB3.out.2.1.2.1 HK3.out.2.1.2.1
  go_wp2_with fail
  refine (equal_yes _ _ _ _ _ _ _ _ hl HB3 HK3 HE).mono ?_
  rintro e w4 ⟨rfl, hb4⟩
  have HK4 : Hid (BSl w4 p1 n c1 ks) := HK3.out.below hb4
  have HBB4 : Hid (Below w.heap.size w w4) := HBB3.out.trans (hb4.mono HBB3.out.size)
  clear hb4 HE SB HB3 S HY2 HN HK3 HK2 HK1 HBB3 HB2
  go_wp2_with fail
  refine (allZero_any _ _ _ ks _ HK4.out.1 hl HK4.out.2.1).mono ?_
  rintro e w' ⟨rfl, hw'⟩
  have hw'' := hw'.symm
  subst hw''
  rw [HZ.out]
  go_wp2_with fail
  refine (pre_yes _ _ _ _ _ hl HK4 HZ).mono ?_
  rintro e w5 ⟨bs', p5, c5, rfl, SB, HB5, hb5⟩
  have HK5 : Hid (BSl w5 p1 n c1 ks) := HK4.out.below hb5
  have HBB5 : Hid (Below w.heap.size w w5) := HBB4.out.trans (hb5.mono HBB4.out.size)
  clear hb5
  have HNA : Hid (allB 255 bs' = false) := not_all_of_suc SB.out
  go_wp2_with fail
  refine (suc_yes _ _ _ _ _ hl HB5 HNA).mono ?_
  rintro e w6 ⟨gs, p6, c6, rfl, SA, HA6, hb6⟩
  have HK6 : Hid (BSl w6 p1 n c1 ks) := HK5.out.below hb6
  have HBB6 : Hid (Below w.heap.size w w6) := HBB5.out.trans (hb6.mono HBB5.out.size)
  clear hb6
  have HE : Hid (gs = ks) := SA.out.same SB.out HA6.out.2.1.2.1 HK6.out.2.1.2.1
  go_wp2_with fail
  refine (equal_yes _ _ _ _ _ _ _ _ hl HA6 HK6 HE).mono ?_
  rintro e w7 ⟨rfl, hb7⟩
  go_wp2
  go_ret
  exact ⟨rfl, HBB6.out.trans (hb7.mono HBB6.out.size)⟩

theorem law4 (p : Option Addr) (n c : Nat) (ks : List Int) (w : World) (HK : BSl w p n c ks) :
    Calls Trym.prog 6 #[.slice p n c] w fun e w' => e = .returned (.bool true) ∧ Below w.heap.size w w' := by
  by_cases hl : n ≤ 1048576
  · cases ha : allB 255 ks
    · cases hz : allB 0 ks
      · exact law4_yes p n c ks w hl HK ha hz
      · exact law4_yes_zero p n c ks w hl HK ha hz
    · cases hz : allB 0 ks
      · exact law4_no p n c ks w hl HK ha hz
      · exact law4_no_zero p n c ks w hl HK ha hz
  · exact law4_big p n c w hl

end Go.Proofs.Qxb6000440aMods
