/-
  The small functions on the road of fieldsAt: bytes.Clone, setsBits, bytes.Equal; and those of its laws: lawSubmask, lawSetsBits.
-/
import Derived.Test.Qxb6000440aModsSizes
import Derived.Test.Qxb6000440aModsMasks
import Derived.Laws.BitsAllLaws
import Derived.Test.Qxb6000440aModsShelf
namespace Go.Proofs.Qxb6000440aMods
open Go.RowKit

set_option maxHeartbeats 1000000 in
theorem bclone_some (a : Addr) (n c : Nat) (xs : List Int) (w : World) (hl : n ≤ 1048576) (h : Hid (BSl w (some a) n c xs)) :
    Calls Trym.prog 41 #[.slice (some a) n c] w fun e w' => ∃ p' c', e = .returned (.slice p' n c') ∧ w'.ownsRow w.heap.size 5 1 (.slice p' n c') n (xs.map (Value.int .u8)) ∧ Below w.heap.size w w' := by
  have q22 : ∀ (w : World) (a : Option Addr) (n c n' c' : Nat), (binOp .eql 22 (.slice a n c) (.slice none n' c')).run Trym.prog w = .ok (.bool a.isNone) w := fun w a n c n' c' => Lib.run_eql_slice_nil w _ _ a n c n' c' Trym.underlying22
  obtain ⟨i0, hi, hz0, hz1, hz2⟩ := info_parts Trym.info5
  go_enter Trym.func41, Trym.ntmps41
  go_wp2_with (at_builtin; refine wpList_append_own _ rfl _ _ 22 rfl w.heap.size 5 i0 (.int .u8 0) 1 1 Trym.underlying22 hi hz0 hz1 hz2 rfl (by decide) _ _ _ rfl (World.ownsRow_made w #[] 0 (Nat.le_refl _) (Nat.zero_le _) rfl) a n c (xs.map (Value.int .u8)) rfl ?c1 ?c2 ?c3 ?c4 ?c5 ?c6 ?_)
  case c1 => rw [List.length_map, ← h.out.1, Nat.mul_one]
  case c2 =>
    intro j u hj
    exact cell_later ((Below.refl _ w).alloc (Nat.le_refl _) _) (h.out.2.1.news j u hj)
  case c3 => exact map_oneCell xs
  case c4 => unfold maxLen; omega
  case c5 => omega
  case c6 => simp
  intro v' w1 hown hgrow _
  obtain ⟨p', c', hv⟩ := own_form hown
  subst hv
  have HO : Hid (w1.ownsRow w.heap.size 5 1 (.slice p' n c') n (xs.map (Value.int .u8))) := hown
  have HB : Hid (Below w.heap.size w w1) := ((Below.refl _ w).alloc (Nat.le_refl _) _).grown hgrow (by simp) (by intro k hk; simp [Value.ownBlock] at hk; omega)
  clear hown hgrow
  go_wp2
  go_ret
  exact ⟨p', c', rfl, HO.out, HB.out⟩

theorem bclone_nil (n c : Nat) (w : World) : Calls Trym.prog 41 #[.slice none n c] w fun e w' => e = .returned (.slice none 0 0) ∧ w' = w := by
  have q22 : ∀ (w : World) (a : Option Addr) (n c n' c' : Nat), (binOp .eql 22 (.slice a n c) (.slice none n' c')).run Trym.prog w = .ok (.bool a.isNone) w := fun w a n c n' c' => Lib.run_eql_slice_nil w _ _ a n c n' c' Trym.underlying22
  go_enter Trym.func41, Trym.ntmps41
  go_wp2
  go_ret
  exact ⟨rfl, rfl⟩

/-- bytes.Clone: a row of the call's own. -/
theorem bclone (w0 : World) (p : Option Addr) (n c : Nat) (xs : List Int) (w : World) (hl : n ≤ 1048576) (h : Hid (BSl w0 p n c xs)) (hb : Below w0.heap.size w0 w) :
    Calls Trym.prog 41 #[.slice p n c] w fun e w' => ∃ p' c', e = .returned (.slice p' n c') ∧ Hid (w'.ownsRow w.heap.size 5 1 (.slice p' n c') n (xs.map (Value.int .u8))) ∧ Below w.heap.size w w' := by
  have h' := h.out.below hb
  cases p with
  | none =>
    have hx := h'.2.1.1 rfl
    have h0 : n = 0 := by rw [h'.1, hx]; rfl
    subst h0
    subst hx
    refine (bclone_nil 0 c w).mono fun e w' ⟨he, hw⟩ => ?_
    subst hw
    exact ⟨none, 0, he, World.ownsRow_nil _ _ _ _, Below.refl _ _⟩
  | some a => exact bclone_some a n c xs w hl h'

set_option maxHeartbeats 400000 in
/-- setsBits. -/
theorem setsBits42 (p : Option Addr) (n c : Nat) (xs : List Int) (w : World) (hn : Hid (n = xs.length)) (hl : n ≤ 1048576) (hb : Hid (BIn w p xs)) :
    Calls Trym.prog 42 #[.slice p n c] w fun e w' => e = .returned (.bool (!allB 0 xs)) ∧ w' = w := by
  go_enter Trym.func42, Trym.ntmps42
  go_wp2
  go_loop [4, 7] (fun _ i => ∃ k : Nat, k ≤ n ∧ i = .int .i64 k ∧ Hid (allB 0 (xs.take k) = true)) (fun _ i => n - (intOf i).toNat)
  case atStart => exact ⟨0, Nat.zero_le _, rfl, rfl⟩
  case round =>
    obtain ⟨k, hk, rfl, hall⟩ := hrel
    by_cases hlt : k < n
    · obtain ⟨b, o, x, rfl, hcell, hx0, hx1, HX⟩ := hb.out.get hn.out hlt
      go_wp2
      · go_ret
        have hne : (x != 0) = true := by assumption
        refine ⟨ret_bool ?_, rfl⟩
        rw [allB_miss (k := k) (v := 0) (by rw [← hn.out]; exact hlt) (by rw [← HX.out]; simpa using hne)]
        rfl
      · have he : (x != 0) = false := by assumption
        go_round
        case rel => exact ⟨k + 1, by omega, by go_num, allB_hit (by rw [← hn.out]; exact hlt) hall.out (by rw [← HX.out]; simpa using he)⟩
        case measure => simp [intOf]; omega
    · go_wp2
      go_ret
      have := hall.out
      rw [List.take_of_length_le (by rw [← hn.out]; omega)] at this
      refine ⟨ret_bool ?_, rfl⟩
      rw [this]
      rfl

set_option maxHeartbeats 400000 in
/-- lawSetsBits. -/
theorem setsBits32 (p : Option Addr) (n c : Nat) (xs : List Int) (w : World) (hn : Hid (n = xs.length)) (hl : n ≤ 1048576) (hb : Hid (BIn w p xs)) :
    Calls Trym.prog 32 #[.slice p n c] w fun e w' => e = .returned (.bool (!allB 0 xs)) ∧ w' = w := by
  go_enter Trym.func32, Trym.ntmps32
  go_wp2
  go_loop [3] (fun i => ∃ k : Nat, k ≤ n ∧ i = .int .i64 k ∧ Hid (allB 0 (xs.take k) = true)) (fun i => n - (intOf i).toNat)
  case atStart => exact ⟨0, Nat.zero_le _, rfl, rfl⟩
  case round =>
    obtain ⟨k, hk, rfl, hall⟩ := hrel
    by_cases hlt : k < n
    · obtain ⟨b, o, x, rfl, hcell, hx0, hx1, HX⟩ := hb.out.get hn.out hlt
      go_wp2
      · go_ret
        have hne : (x != 0) = true := by assumption
        refine ⟨ret_bool ?_, rfl⟩
        rw [allB_miss (k := k) (v := 0) (by rw [← hn.out]; exact hlt) (by rw [← HX.out]; simpa using hne)]
        rfl
      · have he : (x != 0) = false := by assumption
        go_round
        case rel => exact ⟨k + 1, by omega, by go_num, allB_hit (by rw [← hn.out]; exact hlt) hall.out (by rw [← HX.out]; simpa using he)⟩
        case measure => simp [intOf]; omega
    · go_wp2
      go_ret
      have := hall.out
      rw [List.take_of_length_le (by rw [← hn.out]; omega)] at this
      refine ⟨ret_bool ?_, rfl⟩
      rw [this]
      rfl

/-- Every bit of xs is a bit of ys. -/
def SubB (xs ys : List Int) : Prop := ∀ i, i < xs.length → (xs.getD i 0).toNat &&& (255 - (ys.getD i 0).toNat) = 0

set_option maxHeartbeats 400000 in
/-- lawSubmask at two masks of one length, the first within the second. -/
theorem submask_yes (p1 p2 : Option Addr) (n c1 c2 : Nat) (xs ys : List Int) (w : World) (hl : n ≤ 1048576) (h1 : Hid (BSl w p1 n c1 xs)) (h2 : Hid (BSl w p2 n c2 ys)) (hs : Hid (SubB xs ys)) :
    Calls Trym.prog 31 #[.slice p1 n c1, .slice p2 n c2] w fun e w' => e = .returned (.bool true) ∧ ∃ q, w' = w.drewN q := by
  go_enter Trym.func31, Trym.ntmps31
  go_wp2
  go_loopw [5] (fun i wr => ∃ k q : Nat, k ≤ n ∧ i = .int .i64 k ∧ wr = w.drewN q) (fun i _ => n - (intOf i).toNat)
  case atStart => exact ⟨0, 0, Nat.zero_le _, rfl, rfl⟩
  case round =>
    obtain ⟨k, q, hk, rfl, rfl⟩ := hrel
    by_cases hlt : k < n
    · obtain ⟨b1, o1, x, rfl, hcell1, hx0, hx1, HX⟩ := h1.out.2.1.get h1.out.1 hlt
      obtain ⟨b2, o2, y, rfl, hcell2, hy0, hy1, HY⟩ := h2.out.2.1.get h2.out.1 hlt
      have hb : bits .andNot .u8 x y = 0 := by
        rw [u8_andNot x y hx0 (by omega) hy0 (by omega), HX.out, HY.out, hs.out k (by rw [← h1.out.1]; exact hlt)]
        rfl
      go_wp2
      go_quiet (fail)
      go_wp2
      go_roundw
      case rel => exact ⟨k + 1, _, by omega, by go_num, rfl⟩
      case measure => simp [intOf]; omega
    · go_wp2
      go_ret
      exact ⟨rfl, _, rfl⟩

theorem bytesOf_inj : ∀ {xs ys : List Int}, Rng xs → Rng ys → Lib.bytesOf xs = Lib.bytesOf ys → xs = ys
  | [], [], _, _, _ => rfl
  | [], _ :: _, _, _, h => by simp [Lib.bytesOf] at h
  | _ :: _, [], _, _, h => by simp [Lib.bytesOf] at h
  | x :: xs, y :: ys, hx, hy, h => by
    simp only [Lib.bytesOf, List.map_cons, List.cons.injEq] at h
    obtain ⟨h1, h2⟩ := h
    have rx := hx x List.mem_cons_self
    have ry := hy y List.mem_cons_self
    have e := congrArg UInt8.toNat h1
    simp at e
    have : x = y := by omega
    rw [this, bytesOf_inj (fun a ha => hx a (List.mem_cons_of_mem _ ha)) (fun a ha => hy a (List.mem_cons_of_mem _ ha)) h2]

theorem bytesOf_eq {xs ys : List Int} (hx : Rng xs) (hy : Rng ys) : (Lib.bytesOf xs == Lib.bytesOf ys) = decide (xs = ys) := by
  by_cases h : xs = ys
  · subst h; simp
  · rw [decide_eq_false h, beq_eq_false_iff_ne]
    exact fun e => h (bytesOf_inj hx hy e)

/-- bytes.Equal. -/
theorem bequal (p1 p2 : Option Addr) (n c1 m c2 : Nat) (xs ys : List Int) (w : World) (h1 : Hid (BSl w p1 n c1 xs)) (h2 : Hid (BSl w p2 m c2 ys)) :
    Calls Trym.prog 43 #[.slice p1 n c1, .slice p2 m c2] w fun e w' => e = .returned (.bool (decide (xs = ys))) ∧ w' = w := by
  have f : ∀ {p : Option Addr} {n c : Nat} {xs : List Int}, BSl w p n c xs → Lib.BytesIn w p n xs := fun {p n c xs} h hn => by
    obtain ⟨b, o, hp, hc⟩ := h.2.1.2.2 (by intro e; subst e; have := h.1; simp at this; omega)
    exact ⟨b, o, hp, fun i hi => hc i (by rw [← h.1]; exact hi)⟩
  have := Trym.bytes_Equal_all p1 p2 n c1 m c2 xs ys w h1.out.1.symm h2.out.1.symm (f h1.out) (f h2.out)
  rw [bytesOf_eq h1.out.2.1.2.1 h2.out.2.1.2.1] at this
  exact this

end Go.Proofs.Qxb6000440aMods
