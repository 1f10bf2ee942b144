import Derived.Test.Qxb6000440aModsRows
import Derived.Test.Qxb6000440aModsPlain
import Derived.WalkKit
import Derived.WalkSpells
import Derived.WalkSmall
import Derived.Laws.AppendOwnNone
import Derived.Deep.QuietTactic
import Derived.BigQuiet
namespace Go.Proofs.Qxb6000440aMods
open Go.RowKit

/-- How a slice of bytes lies in a world: nil holds no byte; every number is a byte; where there is a byte, there is a plain address with its cells. -/
def BIn (w : World) (p : Option Addr) (xs : List Int) : Prop :=
  (p = none → xs = []) ∧ (∀ x ∈ xs, 0 ≤ x ∧ x ≤ 255) ∧
  (xs ≠ [] → ∃ b o, p = some ⟨b, o, none⟩ ∧ ∀ i, i < xs.length → w.cell? ⟨b, o + i, none⟩ = some (.int .u8 (xs.getD i 0)))

theorem BIn.below {w w' : World} {p : Option Addr} {xs : List Int} (h : BIn w p xs) (hb : Below w.heap.size w w') : BIn w' p xs := by
  refine ⟨h.1, h.2.1, fun hne => ?_⟩
  obtain ⟨b, o, hp, hc⟩ := h.2.2 hne
  refine ⟨b, o, hp, fun i hi => ?_⟩
  have := hc i hi
  rw [hb.cell (p := ⟨b, o + i, none⟩) (World.block_lt_of_cell? w _ this)]
  exact this

theorem BIn.drewN {w : World} {p : Option Addr} {xs : List Int} (h : BIn w p xs) (q : Nat) : BIn (w.drewN q) p xs := by
  refine ⟨h.1, h.2.1, fun hne => ?_⟩
  obtain ⟨b, o, hp, hc⟩ := h.2.2 hne
  exact ⟨b, o, hp, fun i hi => by simpa using hc i hi⟩

/-- Where there is a k-th byte: its address and cell, the byte under a name of its own. -/
theorem BIn.get {w : World} {p : Option Addr} {xs : List Int} (h : BIn w p xs) {k n : Nat} (hn : n = xs.length) (hk : k < n) :
    ∃ b o x, p = some ⟨b, o, none⟩ ∧ w.cell? ⟨b, o + k, none⟩ = some (.int .u8 x) ∧ 0 ≤ x ∧ x ≤ 255 ∧ Hid (x = xs.getD k 0) := by
  subst hn
  obtain ⟨b, o, hp, hc⟩ := h.2.2 (by intro e; subst e; simp at hk)
  exact ⟨b, o, _, hp, hc k hk, (getD_range h.2.1 k).1, (getD_range h.2.1 k).2, rfl⟩

theorem Trym.own : ownKnob Trym.prog.godebug = none := by kernel_rfl
theorem Trym.laidOut : laidOutB Trym.prog = true := by kernel_rfl
theorem Trym.cells5 : Trym.prog.cellsOf 5 = 1 := by kernel_rfl
theorem Trym.info5 : (Trym.prog.info? 5).map (fun i => (i.zero, i.size, i.bytes)) = some (some (.int .u8 0), 1, 1) := by kernel_rfl

theorem ret_bool {a b : Bool} (h : a = b) : Ending.returned (.bool a) = .returned (.bool b) := by rw [h]

set_option maxHeartbeats 400000 in
theorem allFF_any (p : Option Addr) (n c : Nat) (xs : List Int) (w : World) (hn : Hid (n = xs.length)) (hl : n ≤ 1048576) (hb : Hid (BIn w p xs)) :
    Calls Trym.prog 13 #[.slice p n c] w fun e w' => e = .returned (.bool (allB 255 xs)) ∧ w' = w := by
  go_enter Trym.func13, Trym.ntmps13
  go_wp2
  go_loop [3] (fun i => ∃ k : Nat, k ≤ n ∧ i = .int .i64 k ∧ Hid (allB 255 (xs.take k) = true)) (fun i => n - (intOf i).toNat)
  case atStart => exact ⟨0, Nat.zero_le _, rfl, rfl⟩
  case round =>
    obtain ⟨k, hk, rfl, hall⟩ := hrel
    by_cases hlt : k < n
    · obtain ⟨b, o, x, rfl, hcell, hx0, hx1, HX⟩ := hb.out.get hn.out hlt
      go_wp2
      · go_ret
        have hne : (x != 255) = true := by assumption
        exact ⟨ret_bool (allB_miss (k := k) (by rw [← hn.out]; exact hlt) (by rw [← HX.out]; simpa using hne)).symm, rfl⟩
      · have he : (x != 255) = false := by assumption
        go_round
        case rel => exact ⟨k + 1, by omega, by go_num, allB_hit (by rw [← hn.out]; exact hlt) hall.out (by rw [← HX.out]; simpa using he)⟩
        case measure => simp [intOf]; omega
    · go_wp2
      go_ret
      have := hall.out
      rw [List.take_of_length_le (by rw [← hn.out]; omega)] at this
      exact ⟨ret_bool this.symm, rfl⟩

set_option maxHeartbeats 400000 in
theorem allZero_any (p : Option Addr) (n c : Nat) (xs : List Int) (w : World) (hn : Hid (n = xs.length)) (hl : n ≤ 1048576) (hb : Hid (BIn w p xs)) :
    Calls Trym.prog 17 #[.slice p n c] w fun e w' => e = .returned (.bool (allB 0 xs)) ∧ w' = w := by
  go_enter Trym.func17, Trym.ntmps17
  go_wp2
  go_loop [3] (fun i => ∃ k : Nat, k ≤ n ∧ i = .int .i64 k ∧ Hid (allB 0 (xs.take k) = true)) (fun i => n - (intOf i).toNat)
  case atStart => exact ⟨0, Nat.zero_le _, rfl, rfl⟩
  case round =>
    obtain ⟨k, hk, rfl, hall⟩ := hrel
    by_cases hlt : k < n
    · obtain ⟨b, o, x, rfl, hcell, hx0, hx1, HX⟩ := hb.out.get hn.out hlt
      go_wp2
      · go_ret
        have hne : (x != 0) = true := by assumption
        exact ⟨ret_bool (allB_miss (k := k) (by rw [← hn.out]; exact hlt) (by rw [← HX.out]; simpa using hne)).symm, rfl⟩
      · have he : (x != 0) = false := by assumption
        go_round
        case rel => exact ⟨k + 1, by omega, by go_num, allB_hit (by rw [← hn.out]; exact hlt) hall.out (by rw [← HX.out]; simpa using he)⟩
        case measure => simp [intOf]; omega
    · go_wp2
      go_ret
      have := hall.out
      rw [List.take_of_length_le (by rw [← hn.out]; omega)] at this
      exact ⟨ret_bool this.symm, rfl⟩

theorem ret_int {k : IntKind} {a b : Int} (h : a = b) : Ending.returned (.int k a) = .returned (.int k b) := by rw [h]

/-- lawCompare at two slices of one length. -/
theorem compare_any (p1 p2 : Option Addr) (n c1 c2 : Nat) (xs ys : List Int) (w : World) (hn : Hid (n = xs.length)) (hm : Hid (n = ys.length)) (hl : n ≤ 1048576) (hb1 : Hid (BIn w p1 xs)) (hb2 : Hid (BIn w p2 ys)) :
    Calls Trym.prog 15 #[.slice p1 n c1, .slice p2 n c2] w fun e w' => e = .returned (.int .i64 (cmpB xs ys)) ∧ Below w.heap.size w w' := by
  go_enter Trym.func15, Trym.ntmps15
  go_wp2
  go_loopw [6] (fun i wr => ∃ k q : Nat, k ≤ n ∧ i = .int .i64 k ∧ wr = w.drewN q ∧ Hid (cmpB xs ys = cmpB (xs.drop k) (ys.drop k))) (fun i _ => n - (intOf i).toNat)
  case atStart => exact ⟨0, 0, Nat.zero_le _, rfl, rfl, rfl⟩
  case round =>
    obtain ⟨k, q, hk, rfl, rfl, hall⟩ := hrel
    by_cases hlt : k < n
    · obtain ⟨b1, o1, x, rfl, hcell1, hx0, hx1, HX⟩ := hb1.out.get hn.out hlt
      obtain ⟨b2, o2, y, rfl, hcell2, hy0, hy1, HY⟩ := hb2.out.get hm.out hlt
      have k1 : k < xs.length := by rw [← hn.out]; exact hlt
      have k2 : k < ys.length := by rw [← hm.out]; exact hlt
      have fin : ∀ q, Below w.heap.size w (w.drewN q) := fun q => below_drewN (Below.refl _ _) q
      by_cases hxy : x < y
      · go_wp2
        go_quiet (fail)
        go_wp2
        go_ret
        exact ⟨ret_int (cmpB_lt k1 k2 hall.out (by rw [← HX.out, ← HY.out]; exact hxy)).symm, by rw [World.drewN_drewN]; exact fin _⟩
      · have hd : decide (x < y) = false := decide_eq_false hxy
        by_cases hyx : y < x
        · go_wp2
          go_quiet (fail)
          go_wp2
          go_quiet (fail)
          go_wp2
          go_ret
          exact ⟨ret_int (cmpB_gt k1 k2 hall.out (by rw [← HX.out, ← HY.out]; exact hyx)).symm, by rw [World.drewN_drewN, World.drewN_drewN]; exact fin _⟩
        · go_wp2
          go_quiet (fail)
          go_wp2
          go_quiet (fail)
          go_wp2
          go_roundw
          case rel => exact ⟨k + 1, _, by omega, by go_num, rfl, cmpB_on k1 k2 hall.out (by rw [← HX.out, ← HY.out]; omega) (by rw [← HX.out, ← HY.out]; omega)⟩
          case measure => simp [intOf]; omega
    · go_wp2
      go_ret
      exact ⟨ret_int (cmpB_end (k := k) (by rw [← hn.out]; omega) (by rw [← hm.out]; omega) hall.out).symm, below_drewN (Below.refl _ _) q⟩

/-- lawBytesEqual at two slices of one length. -/
theorem equal_any (p1 p2 : Option Addr) (n c1 c2 : Nat) (xs ys : List Int) (w : World) (hn : Hid (n = xs.length)) (hm : Hid (n = ys.length)) (hl : n ≤ 1048576) (hb1 : Hid (BIn w p1 xs)) (hb2 : Hid (BIn w p2 ys)) :
    Calls Trym.prog 20 #[.slice p1 n c1, .slice p2 n c2] w fun e w' => e = .returned (.bool (decide (xs = ys))) ∧ Below w.heap.size w w' := by
  go_enter Trym.func20, Trym.ntmps20
  go_wp2
  go_loopw [5] (fun i wr => ∃ k q : Nat, k ≤ n ∧ i = .int .i64 k ∧ wr = w.drewN q ∧ Hid (xs.take k = ys.take k)) (fun i _ => n - (intOf i).toNat)
  case atStart => exact ⟨0, 0, Nat.zero_le _, rfl, rfl, rfl⟩
  case round =>
    obtain ⟨k, q, hk, rfl, rfl, hall⟩ := hrel
    by_cases hlt : k < n
    · obtain ⟨b1, o1, x, rfl, hcell1, hx0, hx1, HX⟩ := hb1.out.get hn.out hlt
      obtain ⟨b2, o2, y, rfl, hcell2, hy0, hy1, HY⟩ := hb2.out.get hm.out hlt
      have k1 : k < xs.length := by rw [← hn.out]; exact hlt
      have k2 : k < ys.length := by rw [← hm.out]; exact hlt
      have fin : ∀ q, Below w.heap.size w (w.drewN q) := fun q => below_drewN (Below.refl _ _) q
      go_wp2
      go_quiet (fail)
      go_wp2
      · have hne : (x != y) = true := by assumption
        go_ret
        exact ⟨ret_bool (ne_at (k := k) (by rw [← HX.out, ← HY.out]; simpa using hne)).symm, by rw [World.drewN_drewN]; exact fin _⟩
      · have he : (x != y) = false := by assumption
        go_roundw
        case rel => exact ⟨k + 1, _, by omega, by go_num, rfl, take_eq_on k1 k2 hall.out (by rw [← HX.out, ← HY.out]; simpa using he)⟩
        case measure => simp [intOf]; omega
    · go_wp2
      go_ret
      exact ⟨ret_bool (eq_end (k := k) (by rw [← hn.out]; omega) (by rw [← hm.out]; omega) hall.out).symm, below_drewN (Below.refl _ _) q⟩

theorem zz10_yes (p : Option Addr) (n c : Nat) (w : World) (hl : n ≤ 1048576) :
    Calls Trym.prog 10 #[.slice p n c] w fun e w' => e = .returned (.bool true) ∧ w' = w := by
  go_enter Trym.func10, Trym.ntmps10
  go_wp2
  go_ret
  exact ⟨rfl, rfl⟩
theorem zz10_no (p : Option Addr) (n c : Nat) (w : World) (hl : 1048576 < n) :
    Calls Trym.prog 10 #[.slice p n c] w fun e w' => e = .returned (.bool false) ∧ w' = w := by
  go_enter Trym.func10, Trym.ntmps10
  go_wp2
  go_ret
  exact ⟨rfl, rfl⟩

/-- lawCloneBytes of nil. -/
theorem clone_nil (n c : Nat) (w : World) : Calls Trym.prog 11 #[.slice none n c] w fun e w' => e = .returned (.slice none 0 0) ∧ w' = w := by
  have q22 : ∀ (w : World) (a : Option Addr) (n c n' c' : Nat), (binOp .eql 22 (.slice a n c) (.slice none n' c')).run Trym.prog w = .ok (.bool a.isNone) w := fun w a n c n' c' => Lib.run_eql_slice_nil w _ _ a n c n' c' Trym.underlying22
  go_enter Trym.func11, Trym.ntmps11
  go_wp2
  go_ret
  exact ⟨rfl, rfl⟩

theorem clone_step {wr : World} {b n k : Nat} {xs : List Int} (hn : n = xs.length) (hk : k < n) (h : wr.ownsRow b 5 1 (.slice (some ⟨b, 0, none⟩) n n) n ((fillV 0 xs k).map (Value.int .u8))) :
    (∃ v, wr.cell? ⟨b, k, none⟩ = some v) ∧ wr.frozen? ⟨b, k, none⟩ = false ∧
    (wr.setCell ⟨b, k, none⟩ (.int .u8 (xs.getD k 0))).ownsRow b 5 1 (.slice (some ⟨b, 0, none⟩) n n) n ((fillV 0 xs (k + 1)).map (Value.int .u8)) := by
  refine ⟨?_, h.frozenAt k, ?_⟩
  · have := h.cellAt k (by omega)
    rw [this]
    have hl := h.1
    exact ⟨_, List.getElem?_eq_getElem (by omega)⟩
  · have := (h.stored k (.int .u8 (xs.getD k 0))).1
    rwa [← List.map_set, fillV_set 0 xs k (by omega)] at this

/-- lawCloneBytes of a slice that is not nil. -/
theorem clone_some (a : Addr) (n c : Nat) (xs : List Int) (w : World) (hn : Hid (n = xs.length)) (hl : n ≤ 1048576) (hb : Hid (BIn w (some a) xs)) :
    Calls Trym.prog 11 #[.slice (some a) n c] w fun e w' => e = .returned (.slice (some ⟨w.heap.size, 0, none⟩) n n) ∧ w'.ownsRow w.heap.size 5 1 (.slice (some ⟨w.heap.size, 0, none⟩) n n) n (xs.map (Value.int .u8)) ∧ Below w.heap.size w w' := by
  have q22 : ∀ (w : World) (a : Option Addr) (n c n' c' : Nat), (binOp .eql 22 (.slice a n c) (.slice none n' c')).run Trym.prog w = .ok (.bool a.isNone) w := fun w a n c n' c' => Lib.run_eql_slice_nil w _ _ a n c n' c' Trym.underlying22
  obtain ⟨i0, hi, hz0, hz1, hz2⟩ := info_parts Trym.info5
  have HZ2 : Hid (i0.bytes = 1) := hz2
  clear hz2
  go_enter Trym.func11, Trym.ntmps11
  go_wp2_with (at_make; refine wpList_make_full _ rfl _ _ 22 rfl w.heap.size 5 i0 (.int .u8 0) 1 Trym.underlying22 hi hz0 hz1 _ _ _ _ n rfl rfl rfl rfl ?b2 ?b3 (Nat.le_refl _) ?_)
  case b2 => rw [HZ2.out]; omega
  case b3 => unfold maxLen; omega
  intro w1 hown hgrow
  have hown1 : w1.ownsRow w.heap.size 5 1 (.slice (some ⟨w.heap.size, 0, none⟩) n n) n ((fillV 0 xs 0).map (Value.int .u8)) := by
    rw [fillV_zero, ← hn.out]
    simpa [Value.cells, toList_madeCells_one] using hown
  have hbel : Below w.heap.size w w1 := (Below.refl _ w).grown hgrow (Nat.le_refl _) (by intro k hk; cases hk)
  clear hown hgrow
  have HO : Hid (w1.ownsRow w.heap.size 5 1 (.slice (some ⟨w.heap.size, 0, none⟩) n n) n ((fillV 0 xs 0).map (Value.int .u8))) := hown1
  have HB : Hid (Below w.heap.size w w1) := hbel
  clear hown1 hbel
  go_wp2
  go_loopw [4] (fun i wr => ∃ k : Nat, k ≤ n ∧ i = .int .i64 k ∧ Hid (wr.ownsRow w.heap.size 5 1 (.slice (some ⟨w.heap.size, 0, none⟩) n n) n ((fillV 0 xs k).map (Value.int .u8))) ∧ Hid (Below w.heap.size w wr)) (fun i _ => n - (intOf i).toNat)
  case atStart => exact ⟨0, Nat.zero_le _, rfl, HO, HB⟩
  case round =>
    obtain ⟨k, hk, rfl, ho, hbl⟩ := hrel
    by_cases hlt : k < n
    · have R := clone_step (b := w.heap.size) hn.out hlt ho.out
      obtain ⟨b, o, x, hp, hcell, hx0, hx1, HX⟩ := (hb.out.below hbl.out).get hn.out hlt
      simp only [Option.some.injEq] at hp
      subst hp
      obtain ⟨v0, hv0⟩ := R.1
      have hf := R.2.1
      go_wp2
      go_roundw
      case rel => exact ⟨k + 1, by omega, by go_num, by rw [HX.out]; exact R.2.2, hbl.out.setCell (Nat.le_refl _) _⟩
      case measure => simp [intOf]; omega
    · go_wp2
      go_ret
      have h := ho.out
      rw [fillV_all 0 xs k (by rw [← hn.out]; omega)] at h
      exact ⟨rfl, h, hbl.out⟩

theorem own_form {w : World} {base n : Nat} {v : Value} {xs : List Value} (h : w.ownsRow base 5 1 v n xs) : ∃ p c, v = .slice p n c := by
  rcases h.2 with ⟨rfl, rfl⟩ | ⟨g, cap, cur, rfl, _⟩
  · exact ⟨none, 0, rfl⟩
  · exact ⟨_, _, rfl⟩

/-- What the call owns, in the words of 'BIn'. -/
theorem BIn.own {w : World} {base n : Nat} {p : Option Addr} {c : Nat} {xs : List Int} (h : w.ownsRow base 5 1 (.slice p n c) n (xs.map (Value.int .u8))) (hr : ∀ x ∈ xs, 0 ≤ x ∧ x ≤ 255) : BIn w p xs := by
  have hl : xs.length = n := by simpa using h.1
  rcases h.2 with ⟨hv, h0⟩ | ⟨g, cap, cur, hv, _⟩
  · subst h0
    have : xs = [] := List.eq_nil_of_length_eq_zero hl
    subst this
    exact ⟨fun _ => rfl, hr, fun h => absurd rfl h⟩
  · simp only [Value.slice.injEq, true_and] at hv
    obtain ⟨rfl, rfl⟩ := hv
    refine ⟨fun h => (by cases h), hr, fun _ => ⟨g, 0, rfl, fun i hi => ?_⟩⟩
    rw [Nat.zero_add, h.cellAt i (by omega), List.getElem?_map, List.getD_eq_getElem?_getD, List.getElem?_eq_getElem hi]
    rfl

/-- lawCloneBytes, whatever the slice. -/
theorem clone_any (p : Option Addr) (n c : Nat) (xs : List Int) (w : World) (hn : Hid (n = xs.length)) (hl : n ≤ 1048576) (hb : Hid (BIn w p xs)) :
    Calls Trym.prog 11 #[.slice p n c] w fun e w' => ∃ p' c', e = .returned (.slice p' n c') ∧ Hid (BIn w' p' xs) ∧ (p' = none → c' = 0) ∧ Below w.heap.size w w' := by
  cases p with
  | none =>
    have hx := hb.out.1 rfl
    have h0 : n = 0 := by rw [hn.out, hx]; rfl
    subst h0
    refine (clone_nil 0 c w).mono fun e w' ⟨he, hw⟩ => ?_
    subst hw
    exact ⟨none, 0, he, hb, fun _ => rfl, Below.refl _ _⟩
  | some a =>
    refine (clone_some a n c xs w hn hl hb).mono fun e w' ⟨he, ho, hbl⟩ => ?_
    exact ⟨_, _, he, BIn.own ho hb.out.2.1, fun h => (by cases h), hbl⟩

/-- One byte of a row that the call owns: its cell, that it may be written, and what is owned behind the store. -/
theorem own_step {wr : World} {b n c j : Nat} {p : Option Addr} {zs : List Int} (hj : j < n) (h : wr.ownsRow b 5 1 (.slice p n c) n (zs.map (Value.int .u8))) :
    ∃ g, p = some ⟨g, 0, none⟩ ∧ b ≤ g ∧ wr.cell? ⟨g, j, none⟩ = some (.int .u8 (zs.getD j 0)) ∧ wr.frozen? ⟨g, j, none⟩ = false ∧
    ∀ y : Int, (wr.setCell ⟨g, j, none⟩ (.int .u8 y)).ownsRow b 5 1 (.slice (some ⟨g, 0, none⟩) n c) n ((zs.set j y).map (Value.int .u8)) := by
  have hl : zs.length = n := by simpa using h.1
  rcases h.2 with ⟨hv, h0⟩ | ⟨g, cap, cur, hv, hbg, _⟩
  · omega
  · simp only [Value.slice.injEq, true_and] at hv
    obtain ⟨rfl, rfl⟩ := hv
    refine ⟨g, rfl, hbg, ?_, h.frozenAt j, fun y => ?_⟩
    · rw [h.cellAt j (by omega), List.getElem?_map, List.getD_eq_getElem?_getD, List.getElem?_eq_getElem (by omega)]
      rfl
    · have := (h.stored j (.int .u8 y)).1
      rwa [← List.map_set] at this

/-- The cells of a slice of bytes at an address, as 'append' asks for them. -/
theorem BIn.news {w : World} {a : Addr} {xs : List Int} (h : BIn w (some a) xs) : ∀ j u, (xs.map (Value.int .u8))[j]? = some u → w.cell? (a.add j) = some u := by
  intro j u hj
  have hjn : j < xs.length := by
    have := (List.getElem?_eq_some_iff.1 hj).1
    simpa using this
  obtain ⟨b, o, hp, hc⟩ := h.2.2 (by intro e; subst e; simp at hjn)
  simp only [Option.some.injEq] at hp
  subst hp
  rw [Go.WideShapes.add_plain, hc j hjn]
  rw [List.getElem?_map, List.getElem?_eq_getElem hjn] at hj
  rw [List.getD_eq_getElem?_getD, List.getElem?_eq_getElem hjn]
  exact hj

theorem map_oneCell (xs : List Int) : ∀ u ∈ xs.map (Value.int .u8), u.oneCell' = true := by
  intro u hu; obtain ⟨x, _, rfl⟩ := List.mem_map.1 hu; rfl

/-- What stands at the loop's start: the copy is the call's own. -/
def Copied (w w1 : World) (p : Option Addr) (n c : Nat) (xs : List Int) : Prop := w1.ownsRow w.heap.size 5 1 (.slice p n c) n (xs.map (Value.int .u8)) ∧ Below w.heap.size w w1

set_option maxHeartbeats 1000000 in
theorem suc_some (a : Addr) (n c : Nat) (xs : List Int) (w : World) (hn : Hid (n = xs.length)) (hl : n ≤ 1048576) (hb : Hid (BIn w (some a) xs)) :
    Calls Trym.prog 37 #[.slice (some a) n c] w fun e w' => Below w.heap.size w w' ∧ ((allB 255 xs = true ∧ e = .returned (.tuple #[.slice none 0 0, .bool false])) ∨
      ∃ ys p' c', Suc xs ys ∧ e = .returned (.tuple #[.slice p' n c', .bool true]) ∧ BIn w' p' ys) := by
  obtain ⟨i0, hi, hz0, hz1, hz2⟩ := info_parts Trym.info5
  go_enter Trym.func37, Trym.ntmps37
  go_wp2_with (at_builtin; refine wpList_append_own _ rfl _ _ 22 rfl w.heap.size 5 i0 (.int .u8 0) 1 1 Trym.underlying22 hi hz0 hz1 hz2 rfl (by decide) _ _ _ rfl (World.ownsRow_nil w w.heap.size 5 1) a n c (xs.map (Value.int .u8)) rfl ?c1 ?c2 ?c3 ?c4 ?c5 ?c6 ?_)
  case c1 => rw [List.length_map, ← hn.out, Nat.mul_one]
  case c2 => exact hb.out.news
  case c3 => exact map_oneCell xs
  case c4 => unfold maxLen; omega
  case c5 => omega
  case c6 => exact Nat.le_refl _
  intro v' w1 hown hgrow _
  obtain ⟨p', c', hv⟩ := own_form hown
  subst hv
  have HC : Hid (Copied w w1 p' n c' xs) := ⟨hown, (Below.refl _ w).grown hgrow (Nat.le_refl _) (by intro k hk; simp [Value.ownBlock] at hk)⟩
  clear hown hgrow
  go_wp2
  go_loopw [5] (fun i wr => ∃ z : Int, i = .int .i64 z ∧ -1 ≤ z ∧ z < n ∧ Hid (Copied w wr p' n c' (fillV 0 xs (z + 1).toNat)) ∧ Hid (xs.drop (z + 1).toNat = List.replicate (xs.length - (z + 1).toNat) 255)) (fun i _ => (intOf i + 1).toNat)
  case atStart =>
    refine ⟨_, rfl, by omega, by omega, ?_, ?_⟩
    · rw [show ((n : Int) - 1 + 1).toNat = n by omega, fillV_all 0 xs n (by rw [hn.out]; exact Nat.le_refl _)]; exact HC
    · have e : ((n : Int) - 1 + 1).toNat = xs.length := by rw [← hn.out]; omega
      rw [e, List.drop_length, Nat.sub_self]; rfl
  case round =>
    obtain ⟨z, rfl, hz1, hz2, HC2, HD⟩ := hrel
    by_cases hz : 0 ≤ z
    · obtain ⟨j, rfl⟩ : ∃ j : Nat, z = j := ⟨z.toNat, by omega⟩
      have hj : j < n := by omega
      have hjx : j < xs.length := by rw [← hn.out]; exact hj
      rw [show ((j : Int) + 1).toNat = j + 1 by omega] at HC2 HD
      obtain ⟨g, hp, hg, hcell, hf, hst⟩ := own_step hj HC2.out.1
      rw [fillV_get 0 xs j hjx] at hcell
      have hrg := getD_range hb.out.2.1 j
      subst hp
      have HST : Hid (∀ y : Int, (wr.setCell ⟨g, j, none⟩ (.int .u8 y)).ownsRow w.heap.size 5 1 (.slice (some ⟨g, 0, none⟩) n c') n (((fillV 0 xs (j + 1)).set j y).map (Value.int .u8))) := hst
      have HB := HC2.out.2.setCell (p := ⟨g, j, none⟩) hg
      have HB' : Hid (∀ u : Value, Below w.heap.size w (wr.setCell ⟨g, j, none⟩ u)) := HB
      clear hst HB
      obtain ⟨x, hx⟩ : ∃ x, x = xs.getD j 0 := ⟨_, rfl⟩
      rw [← hx] at hcell hrg
      have HX : Hid (x = xs.getD j 0) := hx
      clear hx
      obtain ⟨hx0, hx1⟩ := hrg
      by_cases hx255 : x = 255
      · subst hx255
        go_wp2
        go_roundw
        case rel =>
          refine ⟨(j : Int) - 1, rfl, by omega, by omega, ⟨?_, HB'.out _⟩, ?_⟩
          · have := HST.out 0
            rw [fillV_back 0 xs j hjx] at this
            rw [show ((j : Int) - 1 + 1).toNat = j by omega]
            exact this
          · rw [show ((j : Int) - 1 + 1).toNat = j by omega]
            exact drop_back hjx HD.out HX.out.symm
        case measure => simp [intOf]
      · have hx2 : x < 255 := by omega
        clear hx255 hx1
        go_wp2
        go_ret2
        refine ⟨HB'.out _, .inr ⟨_, _, _, suc_at hjx HD.out (by rw [← HX.out]; exact hx0) (by rw [← HX.out]; exact hx2), rfl, ?_⟩⟩
        have h := HST.out (x + 1)
        rw [fillV_put 0 (x + 1) xs j hjx, HX.out] at h
        rw [HX.out]
        exact BIn.own h ((suc_at hjx HD.out (by rw [← HX.out]; exact hx0) (by rw [← HX.out]; exact hx2)).range hb.out.2.1)
    · have hz0 : z = -1 := by omega
      subst hz0
      go_wp2
      go_ret2
      refine ⟨HC2.out.2, .inl ⟨all_of_drop HD.out, rfl⟩⟩

/-- What predecessor leaves. -/
def PreEnds (w : World) (n : Nat) (xs : List Int) (e : Ending) (w' : World) : Prop :=
  Below w.heap.size w w' ∧ ∃ ys p' c', (allB 0 xs = false → Suc ys xs) ∧ e = .returned (.slice p' n c') ∧ BIn w' p' ys ∧ ys.length = n

set_option maxHeartbeats 1000000 in
theorem pre_some (a : Addr) (n c : Nat) (xs : List Int) (w : World) (hn : Hid (n = xs.length)) (hl : n ≤ 1048576) (hb : Hid (BIn w (some a) xs)) :
    Calls Trym.prog 38 #[.slice (some a) n c] w fun e w' => PreEnds w n xs e w' := by
  obtain ⟨i0, hi, hz0, hz1, hz2⟩ := info_parts Trym.info5
  go_enter Trym.func38, Trym.ntmps38
  go_wp2_with (at_builtin; refine wpList_append_own _ rfl _ _ 22 rfl w.heap.size 5 i0 (.int .u8 0) 1 1 Trym.underlying22 hi hz0 hz1 hz2 rfl (by decide) _ _ _ rfl (World.ownsRow_nil w w.heap.size 5 1) a n c (xs.map (Value.int .u8)) rfl ?c1 ?c2 ?c3 ?c4 ?c5 ?c6 ?_)
  case c1 => rw [List.length_map, ← hn.out, Nat.mul_one]
  case c2 => exact hb.out.news
  case c3 => exact map_oneCell xs
  case c4 => unfold maxLen; omega
  case c5 => omega
  case c6 => exact Nat.le_refl _
  intro v' w1 hown hgrow _
  obtain ⟨p', c', hv⟩ := own_form hown
  subst hv
  have HC : Hid (Copied w w1 p' n c' xs) := ⟨hown, (Below.refl _ w).grown hgrow (Nat.le_refl _) (by intro k hk; simp [Value.ownBlock] at hk)⟩
  clear hown hgrow
  go_wp2
  go_loopw [4] (fun i wr => ∃ z : Int, i = .int .i64 z ∧ -1 ≤ z ∧ z < n ∧ Hid (Copied w wr p' n c' (fillV 255 xs (z + 1).toNat)) ∧ Hid (xs.drop (z + 1).toNat = List.replicate (xs.length - (z + 1).toNat) 0)) (fun i _ => (intOf i + 1).toNat)
  case atStart =>
    refine ⟨_, rfl, by omega, by omega, ?_, ?_⟩
    · rw [show ((n : Int) - 1 + 1).toNat = n by omega, fillV_all 255 xs n (by rw [hn.out]; exact Nat.le_refl _)]; exact HC
    · have e : ((n : Int) - 1 + 1).toNat = xs.length := by rw [← hn.out]; omega
      rw [e, List.drop_length, Nat.sub_self]; rfl
  case round =>
    obtain ⟨z, rfl, hz1, hz2, HC2, HD⟩ := hrel
    by_cases hz : 0 ≤ z
    · obtain ⟨j, rfl⟩ : ∃ j : Nat, z = j := ⟨z.toNat, by omega⟩
      have hj : j < n := by omega
      have hjx : j < xs.length := by rw [← hn.out]; exact hj
      rw [show ((j : Int) + 1).toNat = j + 1 by omega] at HC2 HD
      obtain ⟨g, hp, hg, hcell, hf, hst⟩ := own_step hj HC2.out.1
      rw [fillV_get 255 xs j hjx] at hcell
      have hrg := getD_range hb.out.2.1 j
      subst hp
      have HST : Hid (∀ y : Int, (wr.setCell ⟨g, j, none⟩ (.int .u8 y)).ownsRow w.heap.size 5 1 (.slice (some ⟨g, 0, none⟩) n c') n (((fillV 255 xs (j + 1)).set j y).map (Value.int .u8))) := hst
      have HB := HC2.out.2.setCell (p := ⟨g, j, none⟩) hg
      have HB' : Hid (∀ u : Value, Below w.heap.size w (wr.setCell ⟨g, j, none⟩ u)) := HB
      clear hst HB
      obtain ⟨x, hx⟩ : ∃ x, x = xs.getD j 0 := ⟨_, rfl⟩
      rw [← hx] at hcell hrg
      have HX : Hid (x = xs.getD j 0) := hx
      clear hx
      obtain ⟨hx0, hx1⟩ := hrg
      by_cases hx255 : x = 0
      · subst hx255
        go_wp2
        go_roundw
        case rel =>
          refine ⟨(j : Int) - 1, rfl, by omega, by omega, ⟨?_, HB'.out _⟩, ?_⟩
          · have := HST.out 255
            rw [fillV_back 255 xs j hjx] at this
            rw [show ((j : Int) - 1 + 1).toNat = j by omega]
            exact this
          · rw [show ((j : Int) - 1 + 1).toNat = j by omega]
            exact drop_back hjx HD.out HX.out.symm
        case measure => simp [intOf]
      · have hx2 : 0 < x := by omega
        clear hx255 hx0
        go_wp2
        go_ret
        have S := pred_at hjx HD.out (by rw [← HX.out]; exact hx2) (by rw [← HX.out]; exact hx1)
        refine ⟨HB'.out _, _, _, _, fun _ => S, rfl, ?_, by rw [hn.out]; exact S.length.symm⟩
        have h := HST.out (x - 1)
        rw [fillV_put 255 (x - 1) xs j hjx, HX.out] at h
        rw [HX.out]
        exact BIn.own h (S.range' hb.out.2.1)
    · have hz0 : z = -1 := by omega
      subst hz0
      go_wp2
      go_ret
      have ha := all_of_drop HD.out
      have h := HC2.out.1
      refine ⟨HC2.out.2, _, _, _, fun h0 => (by rw [ha] at h0; cases h0), rfl, BIn.own h ?_, by rw [fillV_length _ _ _ (by simp)]; exact hn.out.symm⟩
      intro y hy
      simp only [Int.reduceNeg, Int.reduceAdd, Int.toNat_zero, fillV_zero] at hy
      rw [List.eq_of_mem_replicate hy]
      omega

/-- successor of nil. -/
theorem suc_nil (w : World) : Calls Trym.prog 37 #[.slice none 0 0] w fun e w' => e = .returned (.tuple #[.slice none 0 0, .bool false]) ∧ w' = w := by
  obtain ⟨i0, hi, hz0, hz1, hz2⟩ := info_parts Trym.info5
  go_enter Trym.func37, Trym.ntmps37
  go_wp2_with (at_builtin; refine wpList_append_own_none rfl _ _ 22 rfl w.heap.size 5 i0 1 Trym.underlying22 hi _ _ _ rfl (World.ownsRow_nil w w.heap.size 5 1) rfl ?_)
  refine wp_loop_rounds 1 ?_
  rw [rounds_succ]
  go_wp2
  go_ret2
  exact ⟨rfl, rfl⟩

/-- predecessor of nil. -/
theorem pre_nil (w : World) : Calls Trym.prog 38 #[.slice none 0 0] w fun e w' => e = .returned (.slice none 0 0) ∧ w' = w := by
  obtain ⟨i0, hi, hz0, hz1, hz2⟩ := info_parts Trym.info5
  go_enter Trym.func38, Trym.ntmps38
  go_wp2_with (at_builtin; refine wpList_append_own_none rfl _ _ 22 rfl w.heap.size 5 i0 1 Trym.underlying22 hi _ _ _ rfl (World.ownsRow_nil w w.heap.size 5 1) rfl ?_)
  refine wp_loop_rounds 1 ?_
  rw [rounds_succ]
  go_wp2
  go_ret
  exact ⟨rfl, rfl⟩

end Go.Proofs.Qxb6000440aMods
