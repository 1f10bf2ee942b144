import Derived.Test.Qxb6000440aModsData
namespace Go.Proofs.Qxb6000440aMods
open Go.RowKit

/-- Every value and mask is at most 1048576 long. -/
def MsOk (ms : List Mt) : Prop := ∀ m ∈ ms, m.vl.length ≤ 1048576 ∧ m.msk.length ≤ 1048576
/-- Of every route the list of matches, and every value and mask, is at most 1048576 long. -/
def WsOk (ws : List (Int × List Mt)) : Prop := ∀ r ∈ ws, r.2.length ≤ 1048576 ∧ MsOk r.2

/-- What lawWalkBytes answers: too big, or a sum that bounds all lengths. -/
def SmallW (t : Int) (n : Nat) (ws : List (Int × List Mt)) : Prop := t ≤ 1048576 → n ≤ 1048576 ∧ WsOk ws

theorem SmallW.big (n : Nat) (ws : List (Int × List Mt)) : SmallW 4194304 n ws := fun h => absurd h (by decide)

theorem MsOk.snoc {ms : List Mt} {j : Nat} {m : Mt} (h : MsOk (ms.take j)) (hm : ms[j]? = some m) (h1 : m.vl.length ≤ 1048576) (h2 : m.msk.length ≤ 1048576) : MsOk (ms.take (j + 1)) := by
  intro x hx
  rw [List.take_add_one, hm] at hx
  rcases List.mem_append.1 hx with h' | h'
  · exact h x h'
  · simp at h'; subst h'; exact ⟨h1, h2⟩

theorem WsOk.snoc {ws : List (Int × List Mt)} {k : Nat} {s : Int} {ms : List Mt} (h : WsOk (ws.take k)) (hr : ws[k]? = some (s, ms)) (h1 : ms.length ≤ 1048576) (h2 : MsOk ms) : WsOk (ws.take (k + 1)) := by
  intro x hx
  rw [List.take_add_one, hr] at hx
  rcases List.mem_append.1 hx with h' | h'
  · exact h x h'
  · simp at h'; subst h'; exact ⟨h1, h2⟩

theorem wbytes_big (p : Option Addr) (n c : Nat) (ws : List (Int × List Mt)) (w : World) (hn : 1048576 < n) :
    Calls Trym.prog 22 #[.slice p n c] w fun e w' => ∃ t : Int, e = .returned (.int .i64 t) ∧ 0 ≤ t ∧ t ≤ 4194304 ∧ SmallW t n ws ∧ Below w.heap.size w w' := by
  go_enter Trym.func22, Trym.ntmps22
  go_wp2
  go_ret
  exact ⟨_, rfl, by omega, by omega, fun h => absurd h (by decide), Below.refl _ _⟩

theorem wbytes_big2 (p : Option Addr) (n c : Nat) (ws : List (Int × List Mt)) (w : World) (hn : n ≤ 1048576) (hn2 : 32768 < n) :
    Calls Trym.prog 22 #[.slice p n c] w fun e w' => ∃ t : Int, e = .returned (.int .i64 t) ∧ 0 ≤ t ∧ t ≤ 4194304 ∧ SmallW t n ws ∧ Below w.heap.size w w' := by
  go_enter Trym.func22, Trym.ntmps22
  go_wp2
  go_ret
  exact ⟨_, rfl, by omega, by omega, fun h => absurd h (by decide), Below.refl _ _⟩

set_option maxHeartbeats 1000000 in
theorem wbytes_in (p : Option Addr) (n c : Nat) (ws : List (Int × List Mt)) (w : World) (hn : n ≤ 32768) (HW : Hid (WsAt 0 w p n ws)) :
    Calls Trym.prog 22 #[.slice p n c] w fun e w' => ∃ t : Int, e = .returned (.int .i64 t) ∧ 0 ≤ t ∧ t ≤ 4194304 ∧ SmallW t n ws ∧ Below w.heap.size w w' := by
  go_enter Trym.func22, Trym.ntmps22
  go_wp2
  go_loopw [3, 4, 5, 6] (fun t i _ _ wr => ∃ (z : Int) (k : Nat), t = .int .i64 z ∧ 0 ≤ z ∧ z ≤ 1048576 ∧ k ≤ n ∧ i = .int .i64 k ∧ Hid (WsOk (ws.take k)) ∧ Hid (Below w.heap.size w wr)) (fun _ i _ _ _ => n - (intOf i).toNat)
  case atStart => exact ⟨_, 0, rfl, by omega, by omega, Nat.zero_le _, rfl, fun r hr => (by simp at hr), Below.refl _ _⟩
  case round =>
    obtain ⟨z, k, rfl, hz0, hz1, hk, rfl, hok, hbl⟩ := hrel
    by_cases hlt : k < n
    · obtain ⟨s, ms, b, o, p', n', c', HR, rfl, g0, g1, HMs⟩ := (HW.out.below hbl.out).get hlt
      by_cases hn' : n' ≤ 1048576
      · by_cases hsum : z + 56 * n' ≤ 1048576
        · go_wp2
          go_loopw [3, 6] (fun t i wi => ∃ (y : Int) (j : Nat), t = .int .i64 y ∧ 0 ≤ y ∧ y ≤ 1048576 ∧ j ≤ n' ∧ i = .int .i64 j ∧ Hid (MsOk (ms.take j)) ∧ Hid (Below w.heap.size w wi) ∧ Hid (Below wr.heap.size wr wi)) (fun _ i _ => n' - (intOf i).toNat)
          case atStart => exact ⟨_, 0, rfl, by omega, by omega, Nat.zero_le _, rfl, fun r hr => (by simp at hr), hbl, Below.refl _ _⟩
          case round =>
            obtain ⟨y, j, rfl, hy0, hy1, hj, rfl, hok2, hbl2, hbl3⟩ := hrel
            by_cases hlt2 : j < n'
            · obtain ⟨m, b2, o2, p1, n1, c1, p2, n2, c2, HM, rfl, k0, k1, k2, HV, HK⟩ := (HMs.out.below hbl3.out).get hlt2
              go_wp2_with fail
              refine (mbytes _ _ _ _ _ _ _ _).mono ?_
              rintro e w5 ⟨t, rfl, ht0, ht1, hsm, hb5⟩
              have HB5 : Hid (Below w.heap.size w w5) := hbl2.out.trans (hb5.mono hbl2.out.size)
              have HB6 : Hid (Below _ _ w5) := hbl3.out.trans (hb5.mono hbl3.out.size)
              clear hb5
              have HSM : Hid (SmallIf t n1 n2) := hsm
              clear hsm
              by_cases hst : y + t ≤ 1048576
              · go_wp2
                go_roundw
                case rel =>
                  have hs := HSM.out (by omega)
                  exact ⟨_, j + 1, rfl, by omega, by omega, by omega, by go_num, hok2.out.snoc HM.out (by rw [← HV.out.1.1]; exact hs.1) (by rw [← HK.out.1.1]; exact hs.2), HB5, HB6⟩
                case measure => simp [intOf]; omega
              · have hst' : 1048576 < y + t := by omega
                clear hst
                go_wp2
                go_ret
                exact ⟨_, rfl, by omega, by omega, SmallW.big _ _, HB5.out⟩
            · go_wp2
              go_roundw
              case rel =>
                have hm := hok2.out
                rw [List.take_of_length_le (by rw [← HMs.out.1]; omega)] at hm
                exact ⟨_, k + 1, rfl, by omega, by omega, by omega, by go_num, hok.out.snoc HR.out (by rw [← HMs.out.1]; exact hn') hm, hbl2⟩
              case measure => simp [intOf]; omega
        · have hsum' : 1048576 < z + 56 * n' := by omega
          clear hsum
          go_wp2
          go_ret
          exact ⟨_, rfl, by omega, by omega, SmallW.big _ _, hbl.out⟩
      · have hn'' : 1048576 < n' := by omega
        clear hn'
        go_wp2
        go_ret
        exact ⟨_, rfl, by omega, by omega, SmallW.big _ _, hbl.out⟩
    · go_wp2
      go_ret
      have hm := hok.out
      rw [List.take_of_length_le (by rw [← HW.out.1]; omega)] at hm
      exact ⟨_, rfl, by omega, by omega, fun _ => ⟨by omega, hm⟩, hbl.out⟩

/-- lawWalkBytes. -/
theorem wbytes (p : Option Addr) (n c : Nat) (ws : List (Int × List Mt)) (w : World) (HW : Hid (WsAt 0 w p n ws)) :
    Calls Trym.prog 22 #[.slice p n c] w fun e w' => ∃ t : Int, e = .returned (.int .i64 t) ∧ 0 ≤ t ∧ t ≤ 4194304 ∧ SmallW t n ws ∧ Below w.heap.size w w' := by
  by_cases h1 : n ≤ 32768
  · exact wbytes_in p n c ws w h1 HW
  · by_cases h2 : n ≤ 1048576
    · exact wbytes_big2 p n c ws w h2 (by omega)
    · exact wbytes_big p n c ws w (by omega)

end Go.Proofs.Qxb6000440aMods
