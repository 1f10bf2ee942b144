/-
  FnFieldsAtIgnoresForeignAndOwnMatches: the walk.
-/
import Derived.Test.Qxb6000440aModsBoxes
import Derived.Test.Qxb6000440aModsForeign
import Derived.Deep.DeepCutAuto
namespace Go.Proofs.Qxb6000440aMods
open Go.RowKit

/-- lawToWalk, its slice under a name. -/
theorem toWalk' (p : Option Addr) (n c : Nat) (ws : List (Int × List Mt)) (w : World) (hn : n ≤ 1048576) (HOK : Hid (RtOk ws)) (HW : Hid (WsAt 0 w p n ws)) :
    Calls Trym.prog 27 #[.slice p n c] w fun e w' => ∃ g, e = .returned (.slice (some ⟨g, 0, none⟩) n n) ∧ Hid (WsAt 0 w' (some ⟨g, 0, none⟩) n ws) ∧ Below w.heap.size w w' :=
  (toWalk p n c ws w hn HOK HW).mono fun _ _ ⟨he, h1, h2⟩ => ⟨_, he, h1, h2⟩

theorem i64_in {n : Int} (h1 : -9223372036854775808 ≤ n) (h2 : n ≤ 9223372036854775807) : IntKind.i64.wrap n = n := by
  simp [IntKind.wrap, IntKind.bits, IntKind.signed]
  omega

/-- Three stores into one block: what lies elsewhere stays. -/
theorem three {P : World → Prop} {g : Nat} (h : ∀ (w : World) (o : Nat) (u : Value), P w → P (w.setCell ⟨g, o, none⟩ u)) {w : World} (h0 : P w) (u0 u1 u2 : Value) : P (((w.setCell ⟨g, 0, none⟩ u0).setCell ⟨g, 1, none⟩ u1).setCell ⟨g, 2, none⟩ u2) :=
  h _ _ _ (h _ _ _ (h _ _ _ h0))

set_option maxHeartbeats 4000000 in
set_option maxRecDepth 100000 in
theorem law6 (p : Option Addr) (n c : Nat) (ws : List (Int × List Mt)) (off : Int) (p1 p2 : Option Addr) (n1 c1 n2 c2 : Nat) (vs ms : List Int) (off' : Int) (p3 p4 : Option Addr) (n3 c3 n4 c4 : Nat) (vs' ms' : List Int) (w : World)
    (HW : Hid (WsAt 0 w p n ws)) (HV : Hid (BSl w p1 n1 c1 vs)) (HM : Hid (BSl w p2 n2 c2 ms)) (HV' : Hid (BSl w p3 n3 c3 vs')) (HM' : Hid (BSl w p4 n4 c4 ms')) :
    Calls Trym.prog 9 #[.slice p n c, .agg #[.int .i64 off, .slice p1 n1 c1, .slice p2 n2 c2], .agg #[.int .i64 off', .slice p3 n3 c3, .slice p4 n4 c4]] w fun e w' => e = .returned (.bool true) ∧ Below w.heap.size w w' := by
  have HBW : Hid (Below w.heap.size w ((w.alloc (.cells #[.int .i64 off, .slice p1 n1 c1, .slice p2 n2 c2] 31)).alloc (.cells #[.int .i64 off', .slice p3 n3 c3, .slice p4 n4 c4] 31))) := ((Below.refl _ _).alloc (Nat.le_refl _) _).alloc (by simp) _
  have HX : Hid (Bx ((w.alloc (.cells #[.int .i64 off, .slice p1 n1 c1, .slice p2 n2 c2] 31)).alloc (.cells #[.int .i64 off', .slice p3 n3 c3, .slice p4 n4 c4] 31)) w.heap.size (.int .i64 off) (.slice p1 n1 c1) (.slice p2 n2 c2)) :=
    (Bx.new w _ _ _ 31).below ((Below.refl _ _).alloc (Nat.le_refl _) _)
  have HY : Hid (Bx ((w.alloc (.cells #[.int .i64 off, .slice p1 n1 c1, .slice p2 n2 c2] 31)).alloc (.cells #[.int .i64 off', .slice p3 n3 c3, .slice p4 n4 c4] 31)) (w.heap.size + 1) (.int .i64 off') (.slice p3 n3 c3) (.slice p4 n4 c4)) := by
    have := Bx.new (w.alloc (.cells #[.int .i64 off, .slice p1 n1 c1, .slice p2 n2 c2] 31)) (.int .i64 off') (.slice p3 n3 c3) (.slice p4 n4 c4) 31
    have e : (w.alloc (.cells #[.int .i64 off, .slice p1 n1 c1, .slice p2 n2 c2] 31)).heap.size = w.heap.size + 1 := by simp
    rw [e] at this
    exact this
  go_enter Trym.func9, Trym.ntmps9
  go_wp2_with fail
  refine (zz35 _ _ _ ws _ _ _ _ _ _ _ _ _ _ _ _ _ _ _ (HW.out.below HBW.out)).mono ?_
  rintro e w1 ⟨b0, rfl, hb1⟩
  have HX1 : Hid (Bx w1 _ _ _ _) := HX.out.below hb1
  have HY1 : Hid (Bx w1 _ _ _ _) := HY.out.below hb1
  have HB1 : Hid (Below w.heap.size w w1) := HBW.out.trans (hb1.mono HBW.out.size)
  clear hb1 HX HY HBW
  cases b0
  · go_wp2
    go_ret
    exact ⟨rfl, HB1.out⟩
  · obtain ⟨⟨x0, x1, x2⟩, _, _⟩ := HX1.out
    obtain ⟨⟨y0, y1, y2⟩, _, _⟩ := HY1.out
    have SK : Hid (∀ w', Below w1.heap.size w1 w' → (w'.cell? ⟨w.heap.size, 0, none⟩ = some (.int .i64 off) ∧ w'.cell? ⟨w.heap.size, 1, none⟩ = some (.slice p1 n1 c1) ∧ w'.cell? ⟨w.heap.size, 2, none⟩ = some (.slice p2 n2 c2)) ∧ (w'.cell? ⟨w.heap.size + 1, 0, none⟩ = some (.int .i64 off') ∧ w'.cell? ⟨w.heap.size + 1, 1, none⟩ = some (.slice p3 n3 c3) ∧ w'.cell? ⟨w.heap.size + 1, 2, none⟩ = some (.slice p4 n4 c4))) :=
      fun _ hb => ⟨⟨cell_later hb x0, cell_later hb x1, cell_later hb x2⟩, cell_later hb y0, cell_later hb y1, cell_later hb y2⟩
    go_wp2
    go_region_held3 (fun w' => (w'.cell? ⟨w.heap.size, 0, none⟩ = some (.int .i64 off) ∧ w'.cell? ⟨w.heap.size, 1, none⟩ = some (.slice p1 n1 c1) ∧ w'.cell? ⟨w.heap.size, 2, none⟩ = some (.slice p2 n2 c2)) ∧ (w'.cell? ⟨w.heap.size + 1, 0, none⟩ = some (.int .i64 off') ∧ w'.cell? ⟨w.heap.size + 1, 1, none⟩ = some (.slice p3 n3 c3) ∧ w'.cell? ⟨w.heap.size + 1, 2, none⟩ = some (.slice p4 n4 c4)))
      (first | exact SK.out _ HB4.out | exact SK.out _ HB3.out | exact SK.out _ HB2.out | exact SK.out _ (Below.refl _ _).drew)
      (first | (go_at_call 22; refine (wbytes _ _ _ ws _ (HW.out.below HB1.out.drew)).mono ?_; rintro e w2 ⟨t1, rfl, u1, u2, hs1, hb2⟩; have HS1 : Hid (SmallW t1 n ws) := hs1; have HB2 : Hid (Below w1.heap.size w1 w2) := (Below.refl _ _).drew.trans (hb2.mono (by simp)); clear hb2 hs1) | (go_at_call_of 23 (Value.agg #[.int .i64 off, .slice p1 n1 c1, .slice p2 n2 c2]); refine (mbytes _ _ _ _ _ _ _ _).mono ?_; rintro e w3 ⟨t2, rfl, u3, u4, hs2, hb3⟩; have HS2 : Hid (SmallIf t2 n1 n2) := hs2; have HB3 : Hid (Below w1.heap.size w1 w3) := HB2.out.trans (hb3.mono HB2.out.size); clear hb3 hs2) | (go_at_call 23; refine (mbytes _ _ _ _ _ _ _ _).mono ?_; rintro e w4 ⟨t3, rfl, u5, u6, hs3, hb4⟩; have HS3 : Hid (SmallIf t3 n3 n4) := hs3; have HB4 : Hid (Below w1.heap.size w1 w4) := HB3.out.trans (hb4.mono HB3.out.size); clear hb4 hs3))
    clear x0 x1 x2 y0 y1 y2
    have HX4 : Hid (Bx w4 _ _ _ _) := HX1.out.below HB4.out
    have HY4 : Hid (Bx w4 _ _ _ _) := HY1.out.below HB4.out
    have HW4 : Hid (Below w.heap.size w w4) := HB1.out.trans (HB4.out.mono HB1.out.size)
    clear SK HX1 HY1 HB1 HB2 HB3 HB4
    obtain ⟨⟨x0, x1, x2⟩, _, _⟩ := HX4.out
    obtain ⟨⟨y0, y1, y2⟩, _, _⟩ := HY4.out
    rw [i64_in (show -9223372036854775808 ≤ t1 + t2 by omega) (by omega), i64_in (show -9223372036854775808 ≤ t1 + t2 + t3 by omega) (by omega)]
    by_cases hsum : t1 + t2 + t3 ≤ 1048576
    · have HN : Hid ((n ≤ 1048576 ∧ WsOk ws) ∧ (n1 ≤ 1048576 ∧ n2 ≤ 1048576) ∧ (n3 ≤ 1048576 ∧ n4 ≤ 1048576)) := ⟨HS1.out (by omega), HS2.out (by omega), HS3.out (by omega)⟩
      clear HS1 HS2 HS3
      by_cases hsame : off' = off ∧ n4 = n2
      · obtain ⟨rfl, rfl⟩ := hsame
        go_wp2
        go_ret
        exact ⟨rfl, HW4.out⟩
      · have HF : Hid (¬ (off' = off ∧ n4 = n2)) := hsame
        have hcase : ((off' == off) = true ∧ ¬ n4 = n2) ∨ (off' == off) = false := by
          by_cases h : off' = off
          · exact .inl ⟨by simpa using h, fun e => hsame ⟨h, e⟩⟩
          · exact .inr (by simpa using h)
        clear hsame
        rcases hcase with ⟨hd, hl⟩ | hd
        all_goals
          go_wp2_with fail
          refine (cloneWalk _ _ _ ws _ HN.out.1.1 HN.out.1.2 (HW.out.below HW4.out)).mono ?_
          rintro e w5 ⟨pc, cc, wc', rfl, HWc, HRc, hb5⟩
          have HX5 : Hid (Bx w5 _ _ _ _) := HX4.out.below hb5
          have HY5 : Hid (Bx w5 _ _ _ _) := HY4.out.below hb5
          have HB5 : Hid (Below w.heap.size w w5) := HW4.out.trans (hb5.mono HW4.out.size)
          have HG4 : Hid (w.heap.size + 1 < w4.heap.size ∧ w4.heap.size ≤ w5.heap.size) := ⟨HY4.out.2.2, hb5.size⟩
          clear x0 x1 x2 y0 y1 y2 HX4 HY4 HW4 hb5
          obtain ⟨⟨x0, x1, x2⟩, _, _⟩ := HX5.out
          go_wp2_with fail
          refine (cloneMatch _ _ _ _ _ _ _ vs ms _ HN.out.2.1.1 HN.out.2.1.2 (HV.out.below HB5.out) (HM.out.below HB5.out)).mono ?_
          rintro e w6 ⟨q1, d1, q2, d2, rfl, HQ1, HQ2, hb6⟩
          have HX6 : Hid (Bx w6 _ _ _ _) := HX5.out.below hb6
          have HY6 : Hid (Bx w6 _ _ _ _) := HY5.out.below hb6
          have HB6 : Hid (Below w.heap.size w w6) := HB5.out.trans (hb6.mono HB5.out.size)
          have HWc6 : Hid (WsAt (w.heap.size + 2) w6 pc n wc') := (HWc.out.below hb6).mono HG4.out.1
          have HQ16 : Hid (BLo (w.heap.size + 2) w6 q1 n1 d1 vs) := HQ1.out.mono (by have := HG4.out; omega)
          have HQ26 : Hid (BLo (w.heap.size + 2) w6 q2 n2 d2 ms) := HQ2.out.mono (by have := HG4.out; omega)
          have HX7 : Hid (Bx (((w6.setCell ⟨w.heap.size, 0, none⟩ (.int .i64 off)).setCell ⟨w.heap.size, 1, none⟩ (.slice q1 n1 d1)).setCell ⟨w.heap.size, 2, none⟩ (.slice q2 n2 d2)) w.heap.size (.int .i64 off) (.slice q1 n1 d1) (.slice q2 n2 d2)) := HX6.out.put _ _ _
          have HY7 : Hid (Bx (((w6.setCell ⟨w.heap.size, 0, none⟩ (.int .i64 off)).setCell ⟨w.heap.size, 1, none⟩ (.slice q1 n1 d1)).setCell ⟨w.heap.size, 2, none⟩ (.slice q2 n2 d2)) (w.heap.size + 1) (.int .i64 off') (.slice p3 n3 c3) (.slice p4 n4 c4)) := three (P := fun W => Bx W (w.heap.size + 1) (.int .i64 off') (.slice p3 n3 c3) (.slice p4 n4 c4)) (fun W o u h => h.far (by simp) u) HY6.out _ _ _
          have HB7 : Hid (Below w.heap.size w (((w6.setCell ⟨w.heap.size, 0, none⟩ (.int .i64 off)).setCell ⟨w.heap.size, 1, none⟩ (.slice q1 n1 d1)).setCell ⟨w.heap.size, 2, none⟩ (.slice q2 n2 d2))) := three (P := fun W => Below w.heap.size w W) (fun W o u h => h.setCell (by simp) u) HB6.out _ _ _
          have HWc7 : Hid (WsAt (w.heap.size + 2) (((w6.setCell ⟨w.heap.size, 0, none⟩ (.int .i64 off)).setCell ⟨w.heap.size, 1, none⟩ (.slice q1 n1 d1)).setCell ⟨w.heap.size, 2, none⟩ (.slice q2 n2 d2)) pc n wc') := three (P := fun W => WsAt (w.heap.size + 2) W pc n wc') (fun W o u h => h.setCell (by simp) u) HWc6.out _ _ _
          have HQ17 : Hid (BLo (w.heap.size + 2) (((w6.setCell ⟨w.heap.size, 0, none⟩ (.int .i64 off)).setCell ⟨w.heap.size, 1, none⟩ (.slice q1 n1 d1)).setCell ⟨w.heap.size, 2, none⟩ (.slice q2 n2 d2)) q1 n1 d1 vs) := three (P := fun W => BLo (w.heap.size + 2) W q1 n1 d1 vs) (fun W o u h => h.setCell (by simp) u) HQ16.out _ _ _
          have HQ27 : Hid (BLo (w.heap.size + 2) (((w6.setCell ⟨w.heap.size, 0, none⟩ (.int .i64 off)).setCell ⟨w.heap.size, 1, none⟩ (.slice q1 n1 d1)).setCell ⟨w.heap.size, 2, none⟩ (.slice q2 n2 d2)) q2 n2 d2 ms) := three (P := fun W => BLo (w.heap.size + 2) W q2 n2 d2 ms) (fun W o u h => h.setCell (by simp) u) HQ26.out _ _ _
          obtain ⟨⟨a0, a1, a2⟩, ⟨f0, f1, f2⟩, _⟩ := HX6.out
          obtain ⟨⟨b0, b1, b2⟩, _, _⟩ := HY6.out
          clear x0 x1 x2 HX5 HY5 HB5 HWc HQ1 HQ2 hb6 HX6 HY6 HB6 HWc6 HQ16 HQ26
          go_wp2_with fail
          generalize (((w6.setCell ⟨w.heap.size, 0, none⟩ (.int .i64 off)).setCell ⟨w.heap.size, 1, none⟩ (.slice q1 n1 d1)).setCell ⟨w.heap.size, 2, none⟩ (.slice q2 n2 d2)) = w7 at HX7 HY7 HB7 HWc7 HQ17 HQ27 ⊢
          clear a0 a1 a2 f0 f1 f2 b0 b1 b2
          refine (cloneMatch _ _ _ _ _ _ _ vs' ms' _ HN.out.2.2.1 HN.out.2.2.2 (HV'.out.below HB7.out) (HM'.out.below HB7.out)).mono ?_
          rintro e w8 ⟨q3, d3, q4, d4, rfl, HQ3, HQ4, hb8⟩
          have HX8 : Hid (Bx w8 _ _ _ _) := HX7.out.below hb8
          have HY8 : Hid (Bx w8 _ _ _ _) := HY7.out.below hb8
          have HB8 : Hid (Below w.heap.size w w8) := HB7.out.trans (hb8.mono HB7.out.size)
          have HWc8 : Hid (WsAt (w.heap.size + 2) w8 pc n wc') := HWc7.out.below hb8
          have HQ18 : Hid (BLo (w.heap.size + 2) w8 q1 n1 d1 vs) := HQ17.out.below hb8
          have HQ28 : Hid (BLo (w.heap.size + 2) w8 q2 n2 d2 ms) := HQ27.out.below hb8
          have HQ38 : Hid (BLo (w.heap.size + 2) w8 q3 n3 d3 vs') := HQ3.out.mono (by have := HY7.out.2.2; omega)
          have HQ48 : Hid (BLo (w.heap.size + 2) w8 q4 n4 d4 ms') := HQ4.out.mono (by have := HY7.out.2.2; omega)
          have HY9 : Hid (Bx (((w8.setCell ⟨w.heap.size + 1, 0, none⟩ (.int .i64 off')).setCell ⟨w.heap.size + 1, 1, none⟩ (.slice q3 n3 d3)).setCell ⟨w.heap.size + 1, 2, none⟩ (.slice q4 n4 d4)) (w.heap.size + 1) (.int .i64 off') (.slice q3 n3 d3) (.slice q4 n4 d4)) := HY8.out.put _ _ _
          have HX9 : Hid (Bx (((w8.setCell ⟨w.heap.size + 1, 0, none⟩ (.int .i64 off')).setCell ⟨w.heap.size + 1, 1, none⟩ (.slice q3 n3 d3)).setCell ⟨w.heap.size + 1, 2, none⟩ (.slice q4 n4 d4)) w.heap.size (.int .i64 off) (.slice q1 n1 d1) (.slice q2 n2 d2)) := three (P := fun W => Bx W w.heap.size (.int .i64 off) (.slice q1 n1 d1) (.slice q2 n2 d2)) (fun W o u h => h.far (by simp) u) HX8.out _ _ _
          have HB9 : Hid (Below w.heap.size w (((w8.setCell ⟨w.heap.size + 1, 0, none⟩ (.int .i64 off')).setCell ⟨w.heap.size + 1, 1, none⟩ (.slice q3 n3 d3)).setCell ⟨w.heap.size + 1, 2, none⟩ (.slice q4 n4 d4))) := three (P := fun W => Below w.heap.size w W) (fun W o u h => h.setCell (by simp) u) HB8.out _ _ _
          have HWc9 : Hid (WsAt (w.heap.size + 2) (((w8.setCell ⟨w.heap.size + 1, 0, none⟩ (.int .i64 off')).setCell ⟨w.heap.size + 1, 1, none⟩ (.slice q3 n3 d3)).setCell ⟨w.heap.size + 1, 2, none⟩ (.slice q4 n4 d4)) pc n wc') := three (P := fun W => WsAt (w.heap.size + 2) W pc n wc') (fun W o u h => h.setCell (by simp) u) HWc8.out _ _ _
          have HQ19 : Hid (BLo (w.heap.size + 2) (((w8.setCell ⟨w.heap.size + 1, 0, none⟩ (.int .i64 off')).setCell ⟨w.heap.size + 1, 1, none⟩ (.slice q3 n3 d3)).setCell ⟨w.heap.size + 1, 2, none⟩ (.slice q4 n4 d4)) q1 n1 d1 vs) := three (P := fun W => BLo (w.heap.size + 2) W q1 n1 d1 vs) (fun W o u h => h.setCell (by simp) u) HQ18.out _ _ _
          have HQ29 : Hid (BLo (w.heap.size + 2) (((w8.setCell ⟨w.heap.size + 1, 0, none⟩ (.int .i64 off')).setCell ⟨w.heap.size + 1, 1, none⟩ (.slice q3 n3 d3)).setCell ⟨w.heap.size + 1, 2, none⟩ (.slice q4 n4 d4)) q2 n2 d2 ms) := three (P := fun W => BLo (w.heap.size + 2) W q2 n2 d2 ms) (fun W o u h => h.setCell (by simp) u) HQ28.out _ _ _
          have HQ39 : Hid (BLo (w.heap.size + 2) (((w8.setCell ⟨w.heap.size + 1, 0, none⟩ (.int .i64 off')).setCell ⟨w.heap.size + 1, 1, none⟩ (.slice q3 n3 d3)).setCell ⟨w.heap.size + 1, 2, none⟩ (.slice q4 n4 d4)) q3 n3 d3 vs') := three (P := fun W => BLo (w.heap.size + 2) W q3 n3 d3 vs') (fun W o u h => h.setCell (by simp) u) HQ38.out _ _ _
          have HQ49 : Hid (BLo (w.heap.size + 2) (((w8.setCell ⟨w.heap.size + 1, 0, none⟩ (.int .i64 off')).setCell ⟨w.heap.size + 1, 1, none⟩ (.slice q3 n3 d3)).setCell ⟨w.heap.size + 1, 2, none⟩ (.slice q4 n4 d4)) q4 n4 d4 ms') := three (P := fun W => BLo (w.heap.size + 2) W q4 n4 d4 ms') (fun W o u h => h.setCell (by simp) u) HQ48.out _ _ _
          obtain ⟨⟨a0, a1, a2⟩, ⟨f0, f1, f2⟩, _⟩ := HY8.out
          clear HX7 HY7 HB7 HWc7 HQ17 HQ27 HQ3 HQ4 hb8 HX8 HY8 HB8 HWc8 HQ18 HQ28 HQ38 HQ48
          go_wp2_with fail
          generalize (((w8.setCell ⟨w.heap.size + 1, 0, none⟩ (.int .i64 off')).setCell ⟨w.heap.size + 1, 1, none⟩ (.slice q3 n3 d3)).setCell ⟨w.heap.size + 1, 2, none⟩ (.slice q4 n4 d4)) = w9 at HX9 HY9 HB9 HWc9 HQ19 HQ29 HQ39 HQ49 ⊢
          clear a0 a1 a2 f0 f1 f2
          have HW9 : Hid (WsAt 0 w9 pc n wc') := HWc9.out.mono (Nat.zero_le _)
          refine (toWalk' _ _ _ wc' _ HN.out.1.1 HRc HW9).mono ?_
          rintro e w10 ⟨g7, rfl, HT10, hb10⟩
          have HX10 : Hid (Bx w10 _ _ _ _) := HX9.out.below hb10
          have HY10 : Hid (Bx w10 _ _ _ _) := HY9.out.below hb10
          have HB10 : Hid (Below w.heap.size w w10) := HB9.out.trans (hb10.mono HB9.out.size)
          have HA1 : Hid (BSl w10 q1 n1 d1 vs) := HQ19.out.1.below hb10
          have HA2 : Hid (BSl w10 q2 n2 d2 ms) := HQ29.out.1.below hb10
          have HA3 : Hid (BSl w10 q3 n3 d3 vs') := HQ39.out.1.below hb10
          have HA4 : Hid (BSl w10 q4 n4 d4 ms') := HQ49.out.1.below hb10
          clear HX9 HY9 HB9 HWc9 HQ19 HQ29 HQ39 HQ49 HW9 hb10
          obtain ⟨⟨a0, a1, a2⟩, _, _⟩ := HX10.out
          go_wp2_with fail
          refine (toMatch _ _ _ _ _ _ _ _).mono ?_
          rintro e w11 ⟨rfl, hb11⟩
          clear a0 a1 a2
          have HX11 : Hid (Bx w11 _ _ _ _) := HX10.out.below hb11
          have HY11 : Hid (Bx w11 _ _ _ _) := HY10.out.below hb11
          have HM11 : Hid (Bx (w11.alloc (.cells #[.int .i64 off, .slice q1 n1 d1, .slice q2 n2 d2] 43)) w11.heap.size (.int .i64 off) (.slice q1 n1 d1) (.slice q2 n2 d2)) := Bx.new _ _ _ _ _
          have HC11 : Hid (Below w10.heap.size w10 (w11.alloc (.cells #[.int .i64 off, .slice q1 n1 d1, .slice q2 n2 d2] 43))) := hb11.alloc hb11.size _
          have HZ11 : Hid (Bx (w11.alloc (.cells #[.int .i64 off, .slice q1 n1 d1, .slice q2 n2 d2] 43)) (w.heap.size + 1) (.int .i64 off') (.slice q3 n3 d3) (.slice q4 n4 d4)) := HY11.out.below ((Below.refl _ _).alloc (Nat.le_refl _) _)
          have HX12 : Hid (Bx (w11.alloc (.cells #[.int .i64 off, .slice q1 n1 d1, .slice q2 n2 d2] 43)) w.heap.size (.int .i64 off) (.slice q1 n1 d1) (.slice q2 n2 d2)) := HX11.out.below ((Below.refl _ _).alloc (Nat.le_refl _) _)
          clear hb11 HX11 HY11 HX10 HY10
          go_wp2
          generalize (w11.alloc (.cells #[.int .i64 off, .slice q1 n1 d1, .slice q2 n2 d2] 43)) = w12 at HM11 HC11 HZ11 HX12 ⊢
          generalize w11.heap.size = g8 at HM11 ⊢
          have HA1' : Hid (BSl w12 q1 n1 d1 vs) := HA1.out.below HC11.out
          have HA2' : Hid (BSl w12 q2 n2 d2 ms) := HA2.out.below HC11.out
          have HA3' : Hid (BSl w12 q3 n3 d3 vs') := HA3.out.below HC11.out
          have HA4' : Hid (BSl w12 q4 n4 d4 ms') := HA4.out.below HC11.out
          have HT12 : Hid (WsAt 0 w12 (some ⟨g7, 0, none⟩) n wc') := HT10.out.below HC11.out
          have HB12 : Hid (Below w.heap.size w w12) := HB10.out.trans (HC11.out.mono HB10.out.size)
          clear HA1 HA2 HA3 HA4 HT10 HC11 HB10
          have SK : Hid (∀ w', Below w12.heap.size w12 w' → (w'.cell? ⟨g8, 0, none⟩ = some (.int .i64 off) ∧ w'.cell? ⟨g8, 1, none⟩ = some (.slice q1 n1 d1) ∧ w'.cell? ⟨g8, 2, none⟩ = some (.slice q2 n2 d2)) ∧ (w'.cell? ⟨w.heap.size + 1, 0, none⟩ = some (.int .i64 off') ∧ w'.cell? ⟨w.heap.size + 1, 1, none⟩ = some (.slice q3 n3 d3) ∧ w'.cell? ⟨w.heap.size + 1, 2, none⟩ = some (.slice q4 n4 d4))) := fun _ hb =>
            ⟨⟨cell_later hb HM11.out.1.1, cell_later hb HM11.out.1.2.1, cell_later hb HM11.out.1.2.2⟩, cell_later hb HZ11.out.1.1, cell_later hb HZ11.out.1.2.1, cell_later hb HZ11.out.1.2.2⟩
          go_cut [9] from 50 to 54 (fun s9 wx => ∃ g9 g10, s9 = .pointer (some ⟨g9, 0, none⟩) ∧ Hid (Ext w12 wx g9 g10 [⟨off, vs, ms⟩, ⟨off', vs', ms'⟩]))
          case first =>
            go_region_held3 (fun w' => (w'.cell? ⟨g8, 0, none⟩ = some (.int .i64 off) ∧ w'.cell? ⟨g8, 1, none⟩ = some (.slice q1 n1 d1) ∧ w'.cell? ⟨g8, 2, none⟩ = some (.slice q2 n2 d2)) ∧ (w'.cell? ⟨w.heap.size + 1, 0, none⟩ = some (.int .i64 off') ∧ w'.cell? ⟨w.heap.size + 1, 1, none⟩ = some (.slice q3 n3 d3) ∧ w'.cell? ⟨w.heap.size + 1, 2, none⟩ = some (.slice q4 n4 d4)))
              (first | exact SK.out _ (HB14.out.alloc HB14.out.size _) | exact SK.out _ HB14.out | exact SK.out _ (HB13.out.alloc HB13.out.size _) | exact SK.out _ HB13.out | exact SK.out _ ((HB13.out.alloc HB13.out.size _).alloc (Nat.le_trans HB13.out.size (sizele _ _)) _) | exact SK.out _ (Below.refl _ _).drew | exact SK.out _ ((Below.refl _ _).alloc (Nat.le_refl _) _).drew | exact SK.out _ ((HB14.out.setCell (Nat.le_refl _) _).setCell (Nat.le_refl _) _) | exact SK.out _ ((HB14.out.setCell hz13 _).setCell hz13 _) | exact SK.out _ ((HB14.out.setCell (Nat.le_succ_of_le hz13) _).setCell (Nat.le_succ_of_le hz13) _) | fail)
              (first | (go_at_call 28; refine (toMatch _ _ _ _ _ _ _ _).mono ?_; rintro e w13 ⟨rfl, hb13⟩; (first | have HB13 : Hid (Below w12.heap.size w12 w13) := (Below.refl _ _).drew.trans (hb13.mono (Nat.le_refl _)) | have HB13 : Hid (Below w12.heap.size w12 w13) := ((Below.refl _ _).alloc (Nat.le_refl _) _).drew.trans (hb13.mono (sizele _ _)) | fail); have hz13 : w12.heap.size ≤ w13.heap.size := HB13.out.size; (try have K13 : Hid (Bx2 w13 w12.heap.size (.int .i64 0) (.slice none 0 0)) := (Bx2.new w12 (.int .i64 0) (.slice none 0 0) 54).drew.below hb13); clear hb13) | (go_at_call 36; refine (newRoute _ _ _ _ _).mono ?_; rintro e w14 ⟨rfl, hb14⟩; (first | have HB14 : Hid (Below w12.heap.size w12 w14) := (HB13.out.alloc hz13 _).trans (hb14.mono (Nat.le_trans hz13 (sizele _ _))) | have HB14 : Hid (Below w12.heap.size w12 w14) := ((HB13.out.alloc hz13 _).alloc (Nat.le_trans hz13 (sizele _ _)) _).trans (hb14.mono (Nat.le_trans hz13 (Nat.le_trans (sizele _ _) (sizele _ _))))); (first | have C14 : Hid (Six w14 w13.heap.size (.int .i64 off) (.slice q1 n1 d1) (.slice q2 n2 d2) (.int .i64 off') (.slice q3 n3 d3) (.slice q4 n4 d4)) := (Six.new w13 _ rfl _ _ _ _ _ _ 43).below hb14 | have C14 : Hid (Six w14 w13.heap.size (.int .i64 off) (.slice q1 n1 d1) (.slice q2 n2 d2) (.int .i64 off') (.slice q3 n3 d3) (.slice q4 n4 d4)) := ((Six.new w13 _ rfl _ _ _ _ _ _ 43).below ((Below.refl _ _).alloc (Nat.le_refl _) _)).below hb14 | have C14 : Hid (Six w14 (w13.heap.size + 1) (.int .i64 off) (.slice q1 n1 d1) (.slice q2 n2 d2) (.int .i64 off') (.slice q3 n3 d3) (.slice q4 n4 d4)) := (Six.new (w13.alloc (.cells #[.int .i64 0, .slice none 0 0] 54)) _ (size1 _ _) _ _ _ _ _ _ 43).below hb14); (try (first | have K14 : Hid (Bx2 w14 w12.heap.size (.int .i64 0) (.slice none 0 0)) := (K13.out.alloc _).below hb14 | have K14 : Hid (Bx2 w14 w13.heap.size (.int .i64 0) (.slice none 0 0)) := ((Bx2.new w13 (.int .i64 0) (.slice none 0 0) 54).alloc _).below hb14 | have K14 : Hid (Bx2 w14 (w13.heap.size + 1) (.int .i64 0) (.slice none 0 0)) := (Bx2.new' (w13.alloc _) _ (size1 _ _) (.int .i64 0) (.slice none 0 0) 54).below hb14)); (try obtain ⟨⟨z0, z1⟩, ⟨z2, z3⟩, z4⟩ := K14.out); clear hb14) | fail)
            all_goals go_wp2_with fail
            all_goals go_meet
            all_goals
              first
                | exact ⟨_, _, rfl, ext_of (Bx2.new w14 _ _ 54) (C14.out.below ((Below.refl _ _).alloc (Nat.le_refl _) _)) (HB14.out.alloc HB14.out.size _) HA1'.out HA2'.out HA3'.out HA4'.out⟩
                | exact ⟨_, _, rfl, ext_of (K14.out.put _ _) ((C14.out.far (Nat.ne_of_gt K13.out.2.2) _).far (Nat.ne_of_gt K13.out.2.2) _) ((HB14.out.setCell (Nat.le_refl _) _).setCell (Nat.le_refl _) _) HA1'.out HA2'.out HA3'.out HA4'.out⟩
                | exact ⟨_, _, rfl, ext_of (K14.out.put _ _) ((C14.out.far (Nat.succ_ne_self _) _).far (Nat.succ_ne_self _) _) ((HB14.out.setCell hz13 _).setCell hz13 _) HA1'.out HA2'.out HA3'.out HA4'.out⟩
                | exact ⟨_, _, rfl, ext_of (K14.out.put _ _) ((C14.out.far (Nat.succ_ne_self _).symm _).far (Nat.succ_ne_self _).symm _) ((HB14.out.setCell (Nat.le_succ_of_le hz13) _).setCell (Nat.le_succ_of_le hz13) _) HA1'.out HA2'.out HA3'.out HA4'.out⟩
                | fail
          case rest =>
            obtain ⟨g9, g10, rfl, HE⟩ := hcut
            have HEb : Hid (Below w12.heap.size w12 wc) := HE.out.2.2
            have HMc : Hid (Bx wc g8 (.int .i64 off) (.slice q1 n1 d1) (.slice q2 n2 d2)) := HM11.out.below HEb.out
            have HXc : Hid (Bx wc w.heap.size (.int .i64 off) (.slice q1 n1 d1) (.slice q2 n2 d2)) := HX12.out.below HEb.out
            have HTc : Hid (WsAt 0 wc (some ⟨g7, 0, none⟩) n wc') := HT12.out.below HEb.out
            have HBc : Hid (Below w.heap.size w wc) := HB12.out.trans (HEb.out.mono HB12.out.size)
            have HAc : Hid (BSl wc q2 n2 d2 ms) := HA2'.out.below HEb.out
            clear SK HA1' HA2' HA3' HA4' HT12 HB12 HM11 HZ11 HX12 HEb
            obtain ⟨i0, hi, hz0, hz1, hz2⟩ := info_parts Trym.info54
            have HZ2 : Hid (i0.bytes = 32) := hz2
            clear hz2
            have hn : n ≤ 1048576 := HN.out.1.1
            go_wp2_with (at_make; refine wpList_make_own _ rfl _ _ 39 rfl 0 54 i0 (.agg #[.int .i64 0, .slice none 0 0]) 2 Trym.underlying39 hi hz0 hz1 _ _ _ (n + 1) rfl rfl rfl ?b2 ?b3 (Nat.zero_le _) ?_)
            case b2 => rw [HZ2.out]; omega
            case b3 => unfold maxLen; omega
            intro w16 hown16 hgrow16
            have HB16 : Hid (Below wc.heap.size wc w16) := (Below.refl _ wc).grown hgrow16 (Nat.le_refl _) (by intro k hk; cases hk)
            obtain ⟨news, hl, hnews, hone, hrw⟩ := HTc.out.news
            have HNW : Hid (RW 0 wc news wc') := hrw
            have HNC : Hid (∀ j u, news[j]? = some u → w16.cell? ((⟨g7, 0, none⟩ : Addr).add j) = some u) := fun j u hu => cell_later HB16.out (hnews j u hu)
            have HON : Hid (∀ u ∈ news, u.oneCell' = true) := hone
            have HLN : Hid (news.length = n * 2) := hl
            clear hrw hgrow16 hnews hone hl
            go_wp2_with (at_builtin; refine wpList_append_fits _ rfl _ _ 39 rfl 0 54 i0 2 Trym.underlying39 hi hz1 wc.heap.size 0 (n + 1) [] rfl hown16 ⟨g7, 0, none⟩ n n news rfl HLN.out HNC.out HON.out (by omega) ?_)
            intro w17 hown17 hgrow17
            have HB17 : Hid (Below wc.heap.size wc w17) := HB16.out.grown hgrow17 HB16.out.size (by intro k hk; cases hk; exact Nat.le_refl _)
            have HO17 : Hid (w17.ownsRow 0 54 2 (.slice (some ⟨wc.heap.size, 0, none⟩) n (n + 1)) n news) := hown17
            have hs17 : wc.heap.size < w17.heap.size := own_lt HO17.out
            have e0 := cell_later HB17.out HE.out.1.1
            have e1 := cell_later HB17.out HE.out.1.2
            clear hown16 hown17 hgrow17 HNC HON
            go_wp2_with (at_builtin; refine wpList_append_fits _ rfl _ _ 39 rfl 0 54 i0 2 Trym.underlying39 hi hz1 wc.heap.size n (n + 1) news rfl (HO17.out.alloc _) ⟨w17.heap.size, 0, none⟩ 1 1 [.int .i64 0, .slice (some ⟨g10, 0, none⟩) 2 2] rfl rfl (new_cells2 _ _ _ _) (one2 _ _ _ _) (by omega) ?_)
            intro w18 hown18 hgrow18
            have HB18 : Hid (Below wc.heap.size wc w18) := (HB17.out.alloc HB17.out.size _).grown hgrow18 (Nat.le_trans HB17.out.size (sizele _ _)) (by intro k hk; cases hk; exact Nat.le_refl _)
            have HL2 : Hid (WsAt 0 w18 (some ⟨wc.heap.size, 0, none⟩) (n + 1) (wc' ++ [(0, [⟨off, vs, ms⟩, ⟨off', vs', ms'⟩])])) :=
              RW.at hown18 (by rw [List.length_append, ← HTc.out.1]; rfl) ((HNW.out.below HB18.out).snoc (by rw [HLN.out, HTc.out.1]) (HE.out.2.1.below HB18.out))
            clear hown18 hgrow18 HO17 HNW HLN e0 e1 hi hz0 hz1 HZ2 HB16 HB17 hs17
            have HM18 : Hid (Bx w18 g8 (.int .i64 off) (.slice q1 n1 d1) (.slice q2 n2 d2)) := HMc.out.below HB18.out
            have HX18 : Hid (Bx w18 w.heap.size (.int .i64 off) (.slice q1 n1 d1) (.slice q2 n2 d2)) := HXc.out.below HB18.out
            have HT18 : Hid (WsAt 0 w18 (some ⟨g7, 0, none⟩) n wc') := HTc.out.below HB18.out
            have HA18 : Hid (BSl w18 q2 n2 d2 ms) := HAc.out.below HB18.out
            have HE18 : Hid ((w18.cell? ⟨g9, 0, none⟩ = some (.int .i64 0) ∧ w18.cell? ⟨g9, 1, none⟩ = some (.slice (some ⟨g10, 0, none⟩) 2 2)) ∧ MsAt 0 w18 (some ⟨g10, 0, none⟩) 2 [⟨off, vs, ms⟩, ⟨off', vs', ms'⟩]) := ⟨⟨cell_later HB18.out HE.out.1.1, cell_later HB18.out HE.out.1.2⟩, HE.out.2.1.below HB18.out⟩
            have HBw : Hid (Below w.heap.size w w18) := HBc.out.trans (HB18.out.mono HBc.out.size)
            have HRt : Hid (RtOk (wc' ++ [(0, [⟨off, vs, ms⟩, ⟨off', vs', ms'⟩])])) := fun r hr => by
              rcases List.mem_append.1 hr with h | h
              · exact HRc.out r h
              · simp at h; subst h; exact (by decide : 2 ≤ 1048576)
            have HFo : Hid (¬ (off' = off ∧ ms'.length = ms.length)) := fun h => HF.out ⟨h.1, by rw [HM'.out.1, HM.out.1]; exact h.2⟩
            have HRm : Hid (Rng ms) := HA18.out.2.1.2.1
            have HLf : Hid ((fieldsOf off ms wc').length ≤ 2 ∧ ∀ f ∈ fieldsOf off ms wc', f.2.length ≤ 1048576) := ⟨fields_len.1, fun f hf => by rw [fields_len.2 f hf, ← HM.out.1]; exact HN.out.2.1.2⟩
            have hn1 : n ≤ 1048577 := by omega
            have hn2 : n + 1 ≤ 1048577 := by omega
            have hm2 : n2 ≤ 1048576 := HN.out.2.1.2
            clear HMc HXc HTc HAc HE HBc HB18
            have SK : Hid (∀ w', Below w18.heap.size w18 w' → w'.cell? ⟨g8, 0, none⟩ = some (.int .i64 off) ∧ w'.cell? ⟨g8, 1, none⟩ = some (.slice q1 n1 d1) ∧ w'.cell? ⟨g8, 2, none⟩ = some (.slice q2 n2 d2)) := fun _ hb => ⟨cell_later hb HM18.out.1.1, cell_later hb HM18.out.1.2.1, cell_later hb HM18.out.1.2.2⟩
            go_wp2
            go_region_held3 (fun w' => w'.cell? ⟨g8, 0, none⟩ = some (.int .i64 off) ∧ w'.cell? ⟨g8, 1, none⟩ = some (.slice q1 n1 d1) ∧ w'.cell? ⟨g8, 2, none⟩ = some (.slice q2 n2 d2))
              (first | exact SK.out _ HB21.out | exact SK.out _ HB20.out | exact SK.out _ HB19.out | exact SK.out _ (Below.refl _ _).drew | fail)
              (first | (go_at_call_of 26 (Value.slice (some ⟨g7, 0, none⟩) n n); refine (fieldsAt26 w18 _ _ _ wc' _ _ _ _ _ _ _ ms _ hn1 hm2 HRc HT18 HA18 (Below.refl _ _).drew).mono ?_; rintro e w19 ⟨pf, nf, cf, rfl, HF1, hb19⟩; have HB19 : Hid (Below w18.heap.size w18 w19) := (Below.refl _ _).drew.trans (hb19.mono (Nat.le_refl _)); clear hb19) | (go_at_call 26; refine (fieldsAt26 w18 _ _ _ (wc' ++ [(0, [⟨off, vs, ms⟩, ⟨off', vs', ms'⟩])]) _ _ _ _ _ _ _ ms _ hn2 hm2 HRt HL2 HA18 HB19.out).mono ?_; rintro e w20 ⟨pg, ng, cg, rfl, HF2, hb20⟩; rw [fields_more (other := ⟨off', vs', ms'⟩) HRm.out HFo.out] at HF2; have HB20 : Hid (Below w18.heap.size w18 w20) := HB19.out.trans (hb20.mono HB19.out.size); have HF3 : Hid (FldAt w20 pf nf (fieldsOf off ms wc')) := HF1.out.below hb20; have en : ng = nf := HF2.out.1.trans HF1.out.1.symm; subst en; clear hb20) | (go_at_call 34; refine (sameFields _ _ _ _ _ (fieldsOf off ms wc') _ (Nat.le_trans (Nat.le_of_eq HF3.out.1) HLf.out.1) HLf.out.2 HF3 HF2).mono ?_; rintro e w21 ⟨rfl, hb21⟩; have HB21 : Hid (Below w18.heap.size w18 w21) := HB20.out.trans (hb21.mono HB20.out.size); clear hb21) | fail)
            have e0 := cell_later HB21.out HE18.out.1.1
            have e1 := cell_later HB21.out HE18.out.1.2
            obtain ⟨⟨m0, m1, m2⟩, _, hg8⟩ := HM18.out.below HB21.out
            have HAl : Hid (Below w21.heap.size w21 (w21.alloc (.cells #[.int .i64 0, .slice (some ⟨g10, 0, none⟩) 2 2] 54))) := (Below.refl _ _).alloc (Nat.le_refl _) _
            have HW1 : Hid (WsAt 0 (w21.alloc (.cells #[.int .i64 0, .slice (some ⟨g10, 0, none⟩) 2 2] 54)) (some ⟨w21.heap.size, 0, none⟩) 1 [(0, [⟨off, vs, ms⟩, ⟨off', vs', ms'⟩])]) := WsAt.one (HE18.out.2.below HB21.out)
            have HA1 : Hid (BSl (w21.alloc (.cells #[.int .i64 0, .slice (some ⟨g10, 0, none⟩) 2 2] 54)) q2 n2 d2 ms) := (HA18.out.below HB21.out).below HAl.out
            have HX1 : Hid (Bx (w21.alloc (.cells #[.int .i64 0, .slice (some ⟨g10, 0, none⟩) 2 2] 54)) w.heap.size (.int .i64 off) (.slice q1 n1 d1) (.slice q2 n2 d2)) := (HX18.out.below HB21.out).below HAl.out
            have HR1 : Hid (RtOk [(0, [⟨off, vs, ms⟩, ⟨off', vs', ms'⟩])]) := fun r hr => by
              simp at hr; subst hr; exact (by decide : 2 ≤ 1048576)
            have HB1 : Hid (Below w.heap.size w (w21.alloc (.cells #[.int .i64 0, .slice (some ⟨g10, 0, none⟩) 2 2] 54))) := HBw.out.trans ((HB21.out.trans (HAl.out.mono HB21.out.size)).mono HBw.out.size)
            have h1 : 1 ≤ 1048577 := by decide
            clear SK HF1 HF2 HF3 HB19 HB20 HE18 HA18 HX18 HM18 HBw HL2 HT18 HLf HRt
            go_wp2_with fail
            refine (fieldsAt26 (w21.alloc (.cells #[.int .i64 0, .slice (some ⟨g10, 0, none⟩) 2 2] 54)) _ _ _ [(0, [⟨off, vs, ms⟩, ⟨off', vs', ms'⟩])] _ _ _ _ _ _ _ ms _ h1 hm2 HR1 HW1 HA1 (Below.refl _ _)).mono ?_
            rintro e w22 ⟨pa, na, ca, rfl, HFa, hb22⟩
            rw [fields_alone (other := ⟨off', vs', ms'⟩) HRm.out HFo.out] at HFa
            have ena : na = 1 := HFa.out.1
            subst ena
            obtain ⟨ba, oa, pm, nm, cm, hpa, ⟨v0, v1⟩, hbs⟩ := HFa.out.2 0 (off, ms) rfl
            rw [Nat.zero_mul, Nat.add_zero] at v0 v1
            have enm : nm = n2 := by rw [hbs.1, HM.out.1]
            subst enm
            subst hpa
            have HBS : Hid (BSl w22 pm nm cm ms) := hbs
            have HX22 : Hid (Bx w22 w.heap.size (.int .i64 off) (.slice q1 n1 d1) (.slice q2 nm d2)) := HX1.out.below hb22
            have HA22 : Hid (BSl w22 q2 nm d2 ms) := HA1.out.below hb22
            have HB22 : Hid (Below w.heap.size w w22) := HB1.out.trans (hb22.mono HB1.out.size)
            have SK : Hid (∀ w', Below w22.heap.size w22 w' → (w'.cell? ⟨ba, oa, none⟩ = some (.int .i64 off) ∧ w'.cell? ⟨ba, oa + 1, none⟩ = some (.slice pm nm cm)) ∧ (w'.cell? ⟨w.heap.size, 0, none⟩ = some (.int .i64 off) ∧ w'.cell? ⟨w.heap.size, 2, none⟩ = some (.slice q2 nm d2))) := fun _ hb => ⟨⟨cell_later hb v0, cell_later hb v1⟩, cell_later hb HX22.out.1.1, cell_later hb HX22.out.1.2.2⟩
            clear hbs hb22 HFa m0 m1 m2 hg8 e0 e1 HW1 HA1 HX1 HB1 HAl HB21
            obtain ⟨⟨x0, _, x2⟩, _, _⟩ := HX22.out
            go_wp2
            go_region_held3 (fun w' => (w'.cell? ⟨ba, oa, none⟩ = some (.int .i64 off) ∧ w'.cell? ⟨ba, oa + 1, none⟩ = some (.slice pm nm cm)) ∧ (w'.cell? ⟨w.heap.size, 0, none⟩ = some (.int .i64 off) ∧ w'.cell? ⟨w.heap.size, 2, none⟩ = some (.slice q2 nm d2)))
              (first | exact SK.out _ HB25.out | exact SK.out _ HB24.out | exact SK.out _ HB23.out | exact SK.out _ (Below.refl _ _).drew | fail)
              (first | (go_at_call 29; refine (foffB _ _ _ _ _).mono ?_; rintro e w23 ⟨rfl, hb23⟩; have HB23 : Hid (Below w22.heap.size w22 w23) := (Below.refl _ _).drew.trans (hb23.mono (Nat.le_refl _)); clear hb23) | (go_at_call 30; refine (fmaskB _ _ _ _ _).mono ?_; rintro e w24 ⟨rfl, hb24⟩; have HB24 : Hid (Below w22.heap.size w22 w24) := HB23.out.trans (hb24.mono HB23.out.size); clear hb24) | (go_at_call 20; refine (equal_yes _ _ _ _ _ ms ms _ hm2 (HBS.out.below HB24.out) (HA22.out.below HB24.out) rfl).mono ?_; rintro e w25 ⟨rfl, hb25⟩; have HB25 : Hid (Below w22.heap.size w22 w25) := HB24.out.trans (hb25.mono HB24.out.size); clear hb25) | fail)
            go_wp2
            go_ret
            exact ⟨rfl, HB22.out.trans (HB25.out.mono HB22.out.size)⟩
    · have hsum' : 1048576 < t1 + t2 + t3 := by omega
      clear hsum
      go_wp2
      go_ret
      exact ⟨rfl, HW4.out⟩

end Go.Proofs.Qxb6000440aMods
