import Derived.Test.Qxb6000440aModsSizes
namespace Go.Proofs.Qxb6000440aMods
open Go.RowKit

/-- A call that answers one bool and leaves what was there. -/
def Answers (w : World) (e : Ending) (w' : World) : Prop := ∃ b : Bool, e = .returned (.bool b) ∧ Below w.heap.size w w'

set_option maxHeartbeats 2000000 in
set_option maxRecDepth 100000 in
/-- The guard laid by program ahead of the law FnFieldsAtBracketsTheMask: it answers; nothing old is written. -/
theorem zz21 (p : Option Addr) (n c : Nat) (ws : List (Int × List Mt)) (off : Int) (p1 p2 : Option Addr) (n1 c1 n2 c2 : Nat) (w : World) (HW : Hid (WsAt 0 w p n ws)) :
    Calls Trym.prog 21 #[.slice p n c, .agg #[.int .i64 off, .slice p1 n1 c1, .slice p2 n2 c2]] w fun e w' => Answers w e w' := by
  by_cases hn : n ≤ 1048576
  · go_enter Trym.func21, Trym.ntmps21
    go_wp2
    go_loopw [5, 6, 7] (fun t i _ wr => ∃ (z : Int) (k : Nat), t = .int .i64 z ∧ 0 ≤ z ∧ z ≤ 1048576 ∧ k ≤ n ∧ i = .int .i64 k ∧ wr.cell? ⟨w.heap.size, 1, none⟩ = some (.slice p1 n1 c1) ∧ wr.cell? ⟨w.heap.size, 2, none⟩ = some (.slice p2 n2 c2) ∧ Hid (Below w.heap.size w wr)) (fun _ i _ _ => n - (intOf i).toNat)
    case atStart => exact ⟨_, 0, rfl, by omega, by omega, Nat.zero_le _, rfl, by simp, by simp, (Below.refl _ _).alloc (Nat.le_refl _) _⟩
    case round =>
      obtain ⟨z, k, rfl, hz0, hz1, hk, rfl, q1, q2, hbl⟩ := hrel
      by_cases hlt : k < n
      · obtain ⟨s, ms, b, o, p', n', c', HR, rfl, g0, g1, HMs⟩ := (HW.out.below hbl.out).get hlt
        go_wp2
        · go_ret
          exact ⟨_, rfl, hbl.out⟩
        · go_ret
          exact ⟨_, rfl, hbl.out⟩
        · have hz2 : z + n' ≤ 1048576 := by assumption
          go_loop [5, 7] (fun t i => ∃ (y : Int) (j : Nat), t = .int .i64 y ∧ 0 ≤ y ∧ y ≤ 1048576 ∧ j ≤ n' ∧ i = .int .i64 j) (fun _ i => n' - (intOf i).toNat)
          case atStart => exact ⟨_, 0, rfl, by omega, by omega, Nat.zero_le _, rfl⟩
          case round =>
            obtain ⟨y, j, rfl, hy0, hy1, hj, rfl⟩ := hrel
            by_cases hlt2 : j < n'
            · obtain ⟨m, b2, o2, r1, m1, d1, r2, m2, d2, HM, rfl, k0, k1, k2, HV, HK⟩ := HMs.out.get hlt2
              go_wp2
              · go_ret
                exact ⟨_, rfl, hbl.out⟩
              · go_ret
                exact ⟨_, rfl, hbl.out⟩
              · go_ret
                exact ⟨_, rfl, hbl.out⟩
              · go_ret
                exact ⟨_, rfl, hbl.out⟩
              · have hs : y + m1 + m2 ≤ 1048576 := by assumption
                go_round
                case rel => exact ⟨_, j + 1, rfl, by omega, by omega, by omega, by go_num⟩
                case measure => simp [intOf]; omega
            · go_wp2
              go_roundw
              case rel => exact ⟨_, k + 1, rfl, hy0, hy1, by omega, by go_num, q1, q2, hbl⟩
              case measure => simp [intOf]; omega
      · go_wp2
        all_goals (go_ret; exact ⟨_, rfl, hbl.out⟩)
  · have hn' : 1048576 < n := by omega
    clear hn
    go_enter Trym.func21, Trym.ntmps21
    go_wp2
    go_ret
    exact ⟨_, rfl, (Below.refl _ _).alloc (Nat.le_refl _) _⟩

set_option maxHeartbeats 2000000 in
set_option maxRecDepth 100000 in
/-- The guard laid by program ahead of the law FnFieldsAtIgnoresForeignAndOwnMatches: it answers; nothing old is written. -/
theorem zz35 (p : Option Addr) (n c : Nat) (ws : List (Int × List Mt)) (off : Int) (p1 p2 : Option Addr) (n1 c1 n2 c2 : Nat) (off' : Int) (p3 p4 : Option Addr) (n3 c3 n4 c4 : Nat) (w : World) (HW : Hid (WsAt 0 w p n ws)) :
    Calls Trym.prog 35 #[.slice p n c, .agg #[.int .i64 off, .slice p1 n1 c1, .slice p2 n2 c2], .agg #[.int .i64 off', .slice p3 n3 c3, .slice p4 n4 c4]] w fun e w' => Answers w e w' := by
  by_cases hn : n ≤ 1048576
  · go_enter Trym.func35, Trym.ntmps35
    go_wp2
    go_loopw [7, 8, 9] (fun t i _ wr => ∃ (z : Int) (k : Nat), t = .int .i64 z ∧ 0 ≤ z ∧ z ≤ 1048576 ∧ k ≤ n ∧ i = .int .i64 k ∧ wr.cell? ⟨w.heap.size, 1, none⟩ = some (.slice p1 n1 c1) ∧ wr.cell? ⟨w.heap.size, 2, none⟩ = some (.slice p2 n2 c2) ∧ wr.cell? ⟨w.heap.size + 1, 1, none⟩ = some (.slice p3 n3 c3) ∧ wr.cell? ⟨w.heap.size + 1, 2, none⟩ = some (.slice p4 n4 c4) ∧ Hid (Below w.heap.size w wr)) (fun _ i _ _ => n - (intOf i).toNat)
    case atStart => exact ⟨_, 0, rfl, by omega, by omega, Nat.zero_le _, rfl, by simp, by simp, by simp, by simp, ((Below.refl _ _).alloc (Nat.le_refl _) _).alloc (by simp) _⟩
    case round =>
      obtain ⟨z, k, rfl, hz0, hz1, hk, rfl, q1, q2, q3, q4, hbl⟩ := hrel
      by_cases hlt : k < n
      · obtain ⟨s, ms, b, o, p', n', c', HR, rfl, g0, g1, HMs⟩ := (HW.out.below hbl.out).get hlt
        go_wp2
        · go_ret
          exact ⟨_, rfl, hbl.out⟩
        · go_ret
          exact ⟨_, rfl, hbl.out⟩
        · have hz2 : z + n' ≤ 1048576 := by assumption
          go_loop [7, 9] (fun t i => ∃ (y : Int) (j : Nat), t = .int .i64 y ∧ 0 ≤ y ∧ y ≤ 1048576 ∧ j ≤ n' ∧ i = .int .i64 j) (fun _ i => n' - (intOf i).toNat)
          case atStart => exact ⟨_, 0, rfl, by omega, by omega, Nat.zero_le _, rfl⟩
          case round =>
            obtain ⟨y, j, rfl, hy0, hy1, hj, rfl⟩ := hrel
            by_cases hlt2 : j < n'
            · obtain ⟨m, b2, o2, r1, m1, d1, r2, m2, d2, HM, rfl, k0, k1, k2, HV, HK⟩ := HMs.out.get hlt2
              go_wp2
              · go_ret
                exact ⟨_, rfl, hbl.out⟩
              · go_ret
                exact ⟨_, rfl, hbl.out⟩
              · go_ret
                exact ⟨_, rfl, hbl.out⟩
              · go_ret
                exact ⟨_, rfl, hbl.out⟩
              · have hs : y + m1 + m2 ≤ 1048576 := by assumption
                go_round
                case rel => exact ⟨_, j + 1, rfl, by omega, by omega, by omega, by go_num⟩
                case measure => simp [intOf]; omega
            · go_wp2
              go_roundw
              case rel => exact ⟨_, k + 1, rfl, hy0, hy1, by omega, by go_num, q1, q2, q3, q4, hbl⟩
              case measure => simp [intOf]; omega
      · go_wp2
        all_goals (go_ret; exact ⟨_, rfl, hbl.out⟩)
  · have hn' : 1048576 < n := by omega
    clear hn
    go_enter Trym.func35, Trym.ntmps35
    go_wp2
    go_ret
    exact ⟨_, rfl, ((Below.refl _ _).alloc (Nat.le_refl _) _).alloc (by simp) _⟩

end Go.Proofs.Qxb6000440aMods
