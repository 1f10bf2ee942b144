import Derived.Test.Qxb6000440aModsRowsOwn
namespace Go.Proofs.Qxb6000440aMods
open Go.RowKit

theorem cloneWalk_nil (n c : Nat) (w : World) : Calls Trym.prog 24 #[.slice none n c] w fun e w' => e = .returned (.slice none 0 0) ∧ w' = w := by
  have q29 : ∀ (w : World) (a : Option Addr) (n c n' c' : Nat), (binOp .eql 29 (.slice a n c) (.slice none n' c')).run Trym.prog w = .ok (.bool a.isNone) w := fun w a n c n' c' => Lib.run_eql_slice_nil w _ _ a n c n' c' Trym.underlying29
  go_enter Trym.func24, Trym.ntmps24
  go_wp2
  go_ret
  exact ⟨rfl, rfl⟩

set_option maxHeartbeats 2000000 in
set_option maxRecDepth 100000 in
/-- lawCloneWalk of a slice that is not nil: a walk of as many routes, in new memory. -/
theorem cloneWalk_some (a : Addr) (n c : Nat) (ws : List (Int × List Mt)) (w : World) (hn : n ≤ 1048576) (HOK : Hid (WsOk ws)) (HW : Hid (WsAt 0 w (some a) n ws)) :
    Calls Trym.prog 24 #[.slice (some a) n c] w fun e w' => e = .returned (.slice (some ⟨w.heap.size, 0, none⟩) n n) ∧ WRow w' w.heap.size n ∧ Below w.heap.size w w' := by
  have q29 : ∀ (w : World) (a : Option Addr) (n c n' c' : Nat), (binOp .eql 29 (.slice a n c) (.slice none n' c')).run Trym.prog w = .ok (.bool a.isNone) w := fun w a n c n' c' => Lib.run_eql_slice_nil w _ _ a n c n' c' Trym.underlying29
  have q49 : ∀ (w : World) (a : Option Addr) (n c n' c' : Nat), (binOp .neq 49 (.slice a n c) (.slice none n' c')).run Trym.prog w = .ok (.bool (!a.isNone)) w := fun w a n c n' c' => run_neq_slice_nil_any w _ _ a n c n' c' Trym.underlying49
  obtain ⟨i0, hi, hz0, hz1, hz2⟩ := info_parts Trym.info51
  have HZ2 : Hid (i0.bytes = 32) := hz2
  clear hz2
  go_enter Trym.func24, Trym.ntmps24
  go_wp2_with (at_make; refine wpList_make_full _ rfl _ _ 29 rfl 0 51 i0 (.agg #[.int .i64 0, .slice none 0 0]) 2 Trym.underlying29 hi hz0 hz1 _ _ _ _ n rfl rfl rfl rfl ?b2 ?b3 (Nat.zero_le _) ?_)
  case b2 => rw [HZ2.out]; omega
  case b3 => unfold maxLen; omega
  intro w1 hown hgrow
  have HR1 : Hid (WRow w1 w.heap.size n) := WRow.made hown
  have HB1 : Hid (Below w.heap.size w w1) := (Below.refl _ w).grown hgrow (Nat.le_refl _) (by intro k hk; cases hk)
  clear hown hgrow hi hz0 hz1 HZ2
  go_wp2
  go_loopw [4, 5, 6] (fun i _ _ wr => ∃ k : Nat, k ≤ n ∧ i = .int .i64 k ∧ Hid (WRow wr w.heap.size n) ∧ Hid (Below w.heap.size w wr)) (fun i _ _ _ => n - (intOf i).toNat)
  case atStart => exact ⟨0, Nat.zero_le _, rfl, HR1, HB1⟩
  case round =>
    rename World => wo
    obtain ⟨k, hk, rfl, HR, HB⟩ := hrel
    clear HR1 HB1
    by_cases hlt : k < n
    · obtain ⟨s, ms, b, o, p', n', c', HS, hp, g0, g1, HMs⟩ := (HW.out.below HB.out).get hlt
      simp only [Option.some.injEq] at hp
      subst hp
      have HN : Hid (n' ≤ 1048576 ∧ MsOk ms) := by
        have := HOK.out (s, ms) (List.mem_of_getElem? HS.out)
        exact ⟨by rw [HMs.out.1]; exact this.1, this.2⟩
      cases p' with
      | none =>
        obtain ⟨v0, v1, ⟨x0, x1⟩, y0, y1⟩ := HR.out.cells hlt
        have hs := HR.out.store hlt (s := s) (ms := []) (p := none) (k := 0) (c := 0) (by omega) (nilMs _ _)
        have HS2 : Hid (WRow _ _ _) := hs
        clear hs
        go_wp2
        go_roundw
        case rel => exact ⟨k + 1, by omega, by go_num, HS2, (HB.out.setCell (by simp) _).setCell (by simp) _⟩
        case measure => simp [intOf]; omega
      | some a' =>
        have hn' : n' ≤ 1048576 := HN.out.1
        obtain ⟨j0, hj, hw0, hw1, hw2⟩ := info_parts Trym.info31
        have HW2 : Hid (j0.bytes = 56) := hw2
        clear hw2
        go_wp2_with (at_make; refine wpList_make_full _ rfl _ _ 49 rfl 0 31 j0 (.agg #[.int .i64 0, .slice none 0 0, .slice none 0 0]) 3 Trym.underlying49 hj hw0 hw1 _ _ _ _ n' rfl rfl rfl rfl ?b4 ?b5 (Nat.zero_le _) ?_)
        case b4 => rw [HW2.out]; omega
        case b5 => unfold maxLen; omega
        intro w2 hown hgrow
        have HM2 : Hid (MRow w2 wo.heap.size n') := MRow.made hown
        have HB2 : Hid (Below wo.heap.size wo w2) := (Below.refl _ wo).grown hgrow (Nat.le_refl _) (by intro k hk; cases hk)
        have G : Hid (wo.cell? ⟨b, o + k * 2, none⟩ = some (.int .i64 s) ∧ wo.cell? ⟨b, o + k * 2 + 1, none⟩ = some (.slice (some a') n' c')) := ⟨g0, g1⟩
        have hgw : w.heap.size < wo.heap.size := HR.out.lt
        clear hown hgrow hj hw0 hw1 HW2 g0 g1
        go_wp2
        go_loopw [6] (fun i wi => ∃ j : Nat, j ≤ n' ∧ i = .int .i64 j ∧ Hid (MRow wi wo.heap.size n') ∧ Hid (Below wo.heap.size wo wi)) (fun i _ => n' - (intOf i).toNat)
        case atStart => exact ⟨0, Nat.zero_le _, rfl, HM2, HB2⟩
        case round =>
          rename World => wi
          obtain ⟨j, hj, rfl, HMi, HBi⟩ := hrel
          clear HM2 HB2
          have g0 := cell_later HBi.out G.out.1
          have g1 := cell_later HBi.out G.out.2
          by_cases hlt2 : j < n'
          · obtain ⟨m, b2, o2, r1, m1, d1, r2, m2, d2, HM, hp, k0, k1, k2, HV, HK⟩ := (HMs.out.below HBi.out).get hlt2
            simp only [Option.some.injEq] at hp
            subst hp
            have hle := HN.out.2 m (List.mem_of_getElem? HM.out)
            have l1 : m1 ≤ 1048576 := by rw [HV.out.1.1]; exact hle.1
            have l2 : m2 ≤ 1048576 := by rw [HK.out.1.1]; exact hle.2
            clear hle
            go_wp2_with fail
            refine (cloneMatch _ _ _ _ _ _ _ m.vl m.msk _ l1 l2 HV.out.1 HK.out.1).mono ?_
            rintro e w5 ⟨t1, e1, t2, e2, rfl, T1, T2, hb5⟩
            have HM5 : Hid (MRow w5 wo.heap.size n') := HMi.out.below hb5
            have HB5 : Hid (Below wo.heap.size wo w5) := HBi.out.trans (hb5.mono HBi.out.size)
            have hlow : wo.heap.size + 1 ≤ wi.heap.size := HMi.out.lt
            have U1 : Hid (BLo (wo.heap.size + 1) w5 t1 m1 e1 m.vl) := T1.out.mono hlow
            have U2 : Hid (BLo (wo.heap.size + 1) w5 t2 m2 e2 m.msk) := T2.out.mono hlow
            obtain ⟨v0, v1, v2, ⟨x0, x1, x2⟩, y0, y1, y2⟩ := HM5.out.cells hlt2
            have HS5 : Hid (MRow _ wo.heap.size n') := HM5.out.store hlt2 (off := m.off) U1.out U2.out
            clear hb5 T1 T2 U1 U2 HM5 HMi HBi k0 k1 k2 HV HK g0 g1
            go_wp2
            go_roundw
            case rel => exact ⟨j + 1, by omega, by go_num, HS5, ((HB5.out.setCell (by simp) _).setCell (by simp) _).setCell (by simp) _⟩
            case measure => simp [intOf]; omega
          · have HRi : Hid (WRow wi w.heap.size n) := HR.out.below HBi.out
            obtain ⟨v0, v1, ⟨x0, x1⟩, y0, y1⟩ := HRi.out.cells hlt
            obtain ⟨ms', hms'⟩ := HMi.out.at
            have HS2 : Hid (WRow _ w.heap.size n) := HRi.out.store hlt (s := s) (c := n') hn' (hms'.mono (by omega))
            have HBw : Hid (Below w.heap.size w wi) := HB.out.trans (HBi.out.mono HB.out.size)
            clear hms' HMi
            go_wp2
            go_roundw
            case rel => exact ⟨k + 1, by omega, by go_num, HS2, (HBw.out.setCell (by simp) _).setCell (by simp) _⟩
            case measure => simp [intOf]; omega
    · go_wp2
      go_ret
      exact ⟨rfl, HR.out, HB.out⟩

/-- lawCloneWalk: a walk of as many routes, in new memory. -/
theorem cloneWalk (p : Option Addr) (n c : Nat) (ws : List (Int × List Mt)) (w : World) (hn : n ≤ 1048576) (HOK : Hid (WsOk ws)) (HW : Hid (WsAt 0 w p n ws)) :
    Calls Trym.prog 24 #[.slice p n c] w fun e w' => ∃ p' c' ws', e = .returned (.slice p' n c') ∧ Hid (WsAt w.heap.size w' p' n ws') ∧ Hid (RtOk ws') ∧ Below w.heap.size w w' := by
  cases p with
  | none =>
    have h0 : n = 0 := by
      rcases Nat.eq_zero_or_pos n with h | h
      · exact h
      · obtain ⟨_, _, _, _, _, _, _, _, hp, _⟩ := HW.out.get h
        cases hp
    subst h0
    refine (cloneWalk_nil 0 c w).mono fun e w' ⟨he, hw⟩ => ?_
    subst hw
    exact ⟨none, 0, [], he, ⟨rfl, fun i r hr => (by simp at hr)⟩, fun r hr => (by simp at hr), Below.refl _ _⟩
  | some a =>
    refine (cloneWalk_some a n c ws w hn HOK HW).mono fun e w' ⟨he, hr, hb⟩ => ?_
    obtain ⟨ws', h1, h2⟩ := hr.at
    exact ⟨_, _, ws', he, h1, h2, hb⟩

end Go.Proofs.Qxb6000440aMods
