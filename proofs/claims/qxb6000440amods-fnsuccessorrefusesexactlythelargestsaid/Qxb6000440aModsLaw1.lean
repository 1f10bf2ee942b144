import Derived.Test.Qxb6000440aModsKeys
namespace Go.Proofs.Qxb6000440aMods
open Go.RowKit

theorem law1_big (p : Option Addr) (n c : Nat) (w : World) (hl : ¬ n ≤ 1048576) :
    Calls Trym.prog 3 #[.slice p n c] w fun e w' => e = .returned (.bool true) ∧ Below w.heap.size w w' := by
  go_enter Trym.func3, Trym.ntmps3
  go_wp2_with (go_at_call 10; refine (zz10_no _ _ _ _ (by omega)).mono ?_; rintro e w' ⟨rfl, hw'⟩; have hw'' := hw'.symm; subst hw'')
  go_ret
  exact ⟨rfl, Below.refl _ _⟩

theorem law1_no (p : Option Addr) (n c : Nat) (xs : List Int) (w : World) (hl : n ≤ 1048576) (HS : Hid (BSl w p n c xs)) (HA : Hid (allB 255 xs = true)) :
    Calls Trym.prog 3 #[.slice p n c] w fun e w' => e = .returned (.bool true) ∧ Below w.heap.size w w' := by
  have q22 : ∀ (w : World) (a : Option Addr) (n c n' c' : Nat), (binOp .eql 22 (.slice a n c) (.slice none n' c')).run Trym.prog w = .ok (.bool a.isNone) w := fun w a n c n' c' => Lib.run_eql_slice_nil w _ _ a n c n' c' Trym.underlying22
  go_enter Trym.func3, Trym.ntmps3
  go_wp2_with fail
  refine (zz10_yes _ _ _ _ hl).mono ?_
  rintro e w' ⟨rfl, hw'⟩
  have hw'' := hw'.symm
  subst hw''
  go_wp2_with fail
  refine (clone_sl _ _ _ _ _ hl HS).mono ?_
  rintro e w1 ⟨p1, c1, rfl, HS1, hb1⟩
  go_wp2_with fail
  refine (suc_no _ _ _ _ _ hl HS1 HA).mono ?_
  rintro e w2 ⟨rfl, hb2⟩
  go_wp2_with fail
  refine (allFF_any _ _ _ xs _ HS1.out.1 hl (HS1.out.2.1.below hb2)).mono ?_
  rintro e w3 ⟨rfl, rfl⟩
  rw [HA.out]
  go_wp2
  go_ret
  exact ⟨rfl, hb1.trans (hb2.mono hb1.size)⟩

theorem law1_yes (p : Option Addr) (n c : Nat) (xs : List Int) (w : World) (hl : n ≤ 1048576) (HS : Hid (BSl w p n c xs)) (HA : Hid (allB 255 xs = false)) :
    Calls Trym.prog 3 #[.slice p n c] w fun e w' => e = .returned (.bool true) ∧ Below w.heap.size w w' := by
  go_enter Trym.func3, Trym.ntmps3
  go_wp2_with fail
  refine (zz10_yes _ _ _ _ hl).mono ?_
  rintro e w' ⟨rfl, hw'⟩
  have hw'' := hw'.symm
  subst hw''
  go_wp2_with fail
  refine (clone_sl _ _ _ _ _ hl HS).mono ?_
  rintro e w1 ⟨p1, c1, rfl, HS1, hb1⟩
  go_wp2_with fail
  refine (suc_yes _ _ _ _ _ hl HS1 HA).mono ?_
  rintro e w2 ⟨ys, p2, c2, rfl, S, HS2, hb2⟩
  go_wp2_with fail
  refine (allFF_any _ _ _ xs _ HS1.out.1 hl (HS1.out.2.1.below hb2)).mono ?_
  rintro e w3 ⟨rfl, rfl⟩
  rw [HA.out]
  go_wp2
  go_ret
  exact ⟨rfl, hb1.trans (hb2.mono hb1.size)⟩

theorem law1 (p : Option Addr) (n c : Nat) (xs : List Int) (w : World) (HS : BSl w p n c xs) :
    Calls Trym.prog 3 #[.slice p n c] w fun e w' => e = .returned (.bool true) ∧ Below w.heap.size w w' := by
  by_cases hl : n ≤ 1048576
  · cases ha : allB 255 xs
    · exact law1_yes p n c xs w hl HS ha
    · exact law1_no p n c xs w hl HS ha
  · exact law1_big p n c w hl

end Go.Proofs.Qxb6000440aMods
