/-
  FnFieldsAtBracketsTheMask: the walk.
-/
import Derived.Test.Qxb6000440aModsBoxes
import Derived.Test.Qxb6000440aModsBrackets
namespace Go.Proofs.Qxb6000440aMods
open Go.RowKit

theorem submaskB (p1 p2 : Option Addr) (n c1 c2 : Nat) (xs ys : List Int) (w : World) (hl : n ≤ 1048576) (h1 : Hid (BSl w p1 n c1 xs)) (h2 : Hid (BSl w p2 n c2 ys)) (hs : Hid (SubB xs ys)) :
    Calls Trym.prog 31 #[.slice p1 n c1, .slice p2 n c2] w fun e w' => e = .returned (.bool true) ∧ Below w.heap.size w w' :=
  (submask_yes p1 p2 n c1 c2 xs ys w hl h1 h2 hs).mono fun _ _ ⟨he, q, hq⟩ => ⟨he, by rw [hq]; exact below_drewN (Below.refl _ _) q⟩

theorem sets32 (p : Option Addr) (n c : Nat) (xs : List Int) (w : World) (bb : Bool) (hl : n ≤ 1048576) (h : Hid (BSl w p n c xs)) (hb : Hid (bb = !allB 0 xs)) :
    Calls Trym.prog 32 #[.slice p n c] w fun e w' => e = .returned (.bool bb) ∧ w = w' :=
  (setsBits32 p n c xs w h.out.1 hl h.out.2.1).mono fun _ _ ⟨he, hw⟩ => ⟨by rw [he, hb.out], hw.symm⟩

theorem equal_no (p1 p2 : Option Addr) (n c1 c2 : Nat) (xs ys : List Int) (w : World) (hl : n ≤ 1048576) (h1 : Hid (BSl w p1 n c1 xs)) (h2 : Hid (BSl w p2 n c2 ys)) (h : xs ≠ ys) :
    Calls Trym.prog 20 #[.slice p1 n c1, .slice p2 n c2] w fun e w' => e = .returned (.bool false) ∧ Below w.heap.size w w' :=
  (equal_any p1 p2 n c1 c2 xs ys w h1.out.1 h2.out.1 hl h1.out.2.1 h2.out.2.1).mono fun _ _ ⟨he, hb⟩ => ⟨by rw [he, decide_eq_false h], hb⟩

theorem toWalk5 (p : Option Addr) (n c : Nat) (ws : List (Int × List Mt)) (w : World) (hn : n ≤ 1048576) (HOK : Hid (RtOk ws)) (HW : Hid (WsAt 0 w p n ws)) :
    Calls Trym.prog 27 #[.slice p n c] w fun e w' => ∃ g, e = .returned (.slice (some ⟨g, 0, none⟩) n n) ∧ Hid (WsAt 0 w' (some ⟨g, 0, none⟩) n ws) ∧ Below w.heap.size w w' :=
  (toWalk p n c ws w hn HOK HW).mono fun _ _ ⟨he, h1, h2⟩ => ⟨_, he, h1, h2⟩

theorem three5 {P : World → Prop} {g : Nat} (h : ∀ (w : World) (o : Nat) (u : Value), P w → P (w.setCell ⟨g, o, none⟩ u)) {w : World} (h0 : P w) (u0 u1 u2 : Value) : P (((w.setCell ⟨g, 0, none⟩ u0).setCell ⟨g, 1, none⟩ u1).setCell ⟨g, 2, none⟩ u2) :=
  h _ _ _ (h _ _ _ (h _ _ _ h0))

theorem i64_in5 {n : Int} (h1 : -9223372036854775808 ≤ n) (h2 : n ≤ 9223372036854775807) : IntKind.i64.wrap n = n := by
  simp [IntKind.wrap, IntKind.bits, IntKind.signed]
  omega

set_option maxHeartbeats 4000000 in
set_option maxRecDepth 100000 in
theorem law5 (p : Option Addr) (n c : Nat) (ws : List (Int × List Mt)) (off : Int) (p1 p2 : Option Addr) (n1 c1 n2 c2 : Nat) (vs ms : List Int) (w : World)
    (HW : Hid (WsAt 0 w p n ws)) (HV : Hid (BSl w p1 n1 c1 vs)) (HM : Hid (BSl w p2 n2 c2 ms)) :
    Calls Trym.prog 7 #[.slice p n c, .agg #[.int .i64 off, .slice p1 n1 c1, .slice p2 n2 c2]] w fun e w' => e = .returned (.bool true) ∧ Below w.heap.size w w' := by
  have HBW : Hid (Below w.heap.size w (w.alloc (.cells #[.int .i64 off, .slice p1 n1 c1, .slice p2 n2 c2] 31))) := (Below.refl _ _).alloc (Nat.le_refl _) _
  have HX : Hid (Bx (w.alloc (.cells #[.int .i64 off, .slice p1 n1 c1, .slice p2 n2 c2] 31)) w.heap.size (.int .i64 off) (.slice p1 n1 c1) (.slice p2 n2 c2)) := Bx.new w _ _ _ 31
  go_enter Trym.func7, Trym.ntmps7
  go_wp2_with fail
  refine (zz21 _ _ _ ws _ _ _ _ _ _ _ _ (HW.out.below HBW.out)).mono ?_
  rintro e w1 ⟨b0, rfl, hb1⟩
  have HX1 : Hid (Bx w1 _ _ _ _) := HX.out.below hb1
  have HB1 : Hid (Below w.heap.size w w1) := HBW.out.trans (hb1.mono HBW.out.size)
  clear hb1 HX HBW
  cases b0
  · go_wp2
    go_ret
    exact ⟨rfl, HB1.out⟩
  · obtain ⟨⟨x0, x1, x2⟩, _, _⟩ := HX1.out
    have SK : Hid (∀ w', Below w1.heap.size w1 w' → w'.cell? ⟨w.heap.size, 0, none⟩ = some (.int .i64 off) ∧ w'.cell? ⟨w.heap.size, 1, none⟩ = some (.slice p1 n1 c1) ∧ w'.cell? ⟨w.heap.size, 2, none⟩ = some (.slice p2 n2 c2)) :=
      fun _ hb => ⟨cell_later hb x0, cell_later hb x1, cell_later hb x2⟩
    go_wp2
    go_region_held3 (fun w' => w'.cell? ⟨w.heap.size, 0, none⟩ = some (.int .i64 off) ∧ w'.cell? ⟨w.heap.size, 1, none⟩ = some (.slice p1 n1 c1) ∧ w'.cell? ⟨w.heap.size, 2, none⟩ = some (.slice p2 n2 c2))
      (first | exact SK.out _ HB3.out | exact SK.out _ HB2.out | exact SK.out _ (Below.refl _ _).drew | fail)
      (first | (go_at_call 22; refine (wbytes _ _ _ ws _ (HW.out.below HB1.out.drew)).mono ?_; rintro e w2 ⟨t1, rfl, u1, u2, hs1, hb2⟩; have HS1 : Hid (SmallW t1 n ws) := hs1; have HB2 : Hid (Below w1.heap.size w1 w2) := (Below.refl _ _).drew.trans (hb2.mono (Nat.le_refl _)); clear hb2 hs1) | (go_at_call 23; refine (mbytes _ _ _ _ _ _ _ _).mono ?_; rintro e w3 ⟨t2, rfl, u3, u4, hs2, hb3⟩; have HS2 : Hid (SmallIf t2 n1 n2) := hs2; have HB3 : Hid (Below w1.heap.size w1 w3) := HB2.out.trans (hb3.mono HB2.out.size); clear hb3 hs2) | fail)
    clear x0 x1 x2
    have HX4 : Hid (Bx w3 _ _ _ _) := HX1.out.below HB3.out
    have HW4 : Hid (Below w.heap.size w w3) := HB1.out.trans (HB3.out.mono HB1.out.size)
    clear SK HX1 HB1 HB2 HB3
    obtain ⟨⟨x0, x1, x2⟩, _, _⟩ := HX4.out
    rw [i64_in5 (show -9223372036854775808 ≤ t1 + t2 by omega) (by omega)]
    by_cases hsum : t1 + t2 ≤ 1048576
    · have HN : Hid ((n ≤ 1048576 ∧ WsOk ws) ∧ (n1 ≤ 1048576 ∧ n2 ≤ 1048576)) := ⟨HS1.out (by omega), HS2.out (by omega)⟩
      clear HS1 HS2
      go_wp2_with fail
      refine (cloneWalk _ _ _ ws _ HN.out.1.1 HN.out.1.2 (HW.out.below HW4.out)).mono ?_
      rintro e w5 ⟨pc, cc, wk, rfl, HWc, HRc, hb5⟩
      have HX5 : Hid (Bx w5 _ _ _ _) := HX4.out.below hb5
      have HB5 : Hid (Below w.heap.size w w5) := HW4.out.trans (hb5.mono HW4.out.size)
      have HG4 : Hid (w.heap.size < w3.heap.size ∧ w3.heap.size ≤ w5.heap.size) := ⟨HX4.out.2.2, hb5.size⟩
      clear x0 x1 x2 HX4 HW4 hb5
      obtain ⟨⟨x0, x1, x2⟩, _, _⟩ := HX5.out
      go_wp2_with fail
      refine (cloneMatch _ _ _ _ _ _ _ vs ms _ HN.out.2.1 HN.out.2.2 (HV.out.below HB5.out) (HM.out.below HB5.out)).mono ?_
      rintro e w6 ⟨q1, d1, q2, d2, rfl, HQ1, HQ2, hb6⟩
      have HX6 : Hid (Bx w6 _ _ _ _) := HX5.out.below hb6
      have HB6 : Hid (Below w.heap.size w w6) := HB5.out.trans (hb6.mono HB5.out.size)
      have HWc6 : Hid (WsAt (w.heap.size + 1) w6 pc n wk) := (HWc.out.below hb6).mono HG4.out.1
      have HQ26 : Hid (BLo (w.heap.size + 1) w6 q2 n2 d2 ms) := HQ2.out.mono (by have := HG4.out; omega)
      have HX7 : Hid (Bx (((w6.setCell ⟨w.heap.size, 0, none⟩ (.int .i64 off)).setCell ⟨w.heap.size, 1, none⟩ (.slice q1 n1 d1)).setCell ⟨w.heap.size, 2, none⟩ (.slice q2 n2 d2)) w.heap.size (.int .i64 off) (.slice q1 n1 d1) (.slice q2 n2 d2)) := HX6.out.put _ _ _
      have HB7 : Hid (Below w.heap.size w (((w6.setCell ⟨w.heap.size, 0, none⟩ (.int .i64 off)).setCell ⟨w.heap.size, 1, none⟩ (.slice q1 n1 d1)).setCell ⟨w.heap.size, 2, none⟩ (.slice q2 n2 d2))) := three5 (P := fun W => Below w.heap.size w W) (fun W o u h => h.setCell (by simp) u) HB6.out _ _ _
      have HWc7 : Hid (WsAt (w.heap.size + 1) (((w6.setCell ⟨w.heap.size, 0, none⟩ (.int .i64 off)).setCell ⟨w.heap.size, 1, none⟩ (.slice q1 n1 d1)).setCell ⟨w.heap.size, 2, none⟩ (.slice q2 n2 d2)) pc n wk) := three5 (P := fun W => WsAt (w.heap.size + 1) W pc n wk) (fun W o u h => h.setCell (by simp) u) HWc6.out _ _ _
      have HQ27 : Hid (BLo (w.heap.size + 1) (((w6.setCell ⟨w.heap.size, 0, none⟩ (.int .i64 off)).setCell ⟨w.heap.size, 1, none⟩ (.slice q1 n1 d1)).setCell ⟨w.heap.size, 2, none⟩ (.slice q2 n2 d2)) q2 n2 d2 ms) := three5 (P := fun W => BLo (w.heap.size + 1) W q2 n2 d2 ms) (fun W o u h => h.setCell (by simp) u) HQ26.out _ _ _
      obtain ⟨⟨a0, a1, a2⟩, ⟨f0, f1, f2⟩, _⟩ := HX6.out
      clear x0 x1 x2 HX5 HB5 HWc HQ1 HQ2 hb6 HX6 HB6 HWc6 HQ26
      go_wp2
      generalize (((w6.setCell ⟨w.heap.size, 0, none⟩ (.int .i64 off)).setCell ⟨w.heap.size, 1, none⟩ (.slice q1 n1 d1)).setCell ⟨w.heap.size, 2, none⟩ (.slice q2 n2 d2)) = w7 at HX7 HB7 HWc7 HQ27 ⊢
      clear a0 a1 a2 f0 f1 f2
      have HW7 : Hid (WsAt 0 w7 pc n wk) := HWc7.out.mono (Nat.zero_le _)
      have HA7 : Hid (BSl w7 q2 n2 d2 ms) := HQ27.out.1
      clear HWc7 HQ27
      have hn0 : n ≤ 1048576 := HN.out.1.1
      have hn1 : n ≤ 1048577 := by omega
      have hm2 : n2 ≤ 1048576 := HN.out.2.2
      have SK : Hid (∀ w', Below w7.heap.size w7 w' → w'.cell? ⟨w.heap.size, 0, none⟩ = some (.int .i64 off) ∧ w'.cell? ⟨w.heap.size, 1, none⟩ = some (.slice q1 n1 d1) ∧ w'.cell? ⟨w.heap.size, 2, none⟩ = some (.slice q2 n2 d2)) :=
        fun _ hb => ⟨cell_later hb HX7.out.1.1, cell_later hb HX7.out.1.2.1, cell_later hb HX7.out.1.2.2⟩
      go_region_held3 (fun w' => w'.cell? ⟨w.heap.size, 0, none⟩ = some (.int .i64 off) ∧ w'.cell? ⟨w.heap.size, 1, none⟩ = some (.slice q1 n1 d1) ∧ w'.cell? ⟨w.heap.size, 2, none⟩ = some (.slice q2 n2 d2))
        (first | exact SK.out _ HB10.out | exact SK.out _ HB9.out | exact SK.out _ HB8.out | exact SK.out _ (Below.refl _ _).drew | fail)
        (first | (go_at_call 27; refine (toWalk5 _ _ _ wk _ hn0 HRc (HW7.out.below (Below.refl _ _).drew)).mono ?_; rintro e w8 ⟨g7, rfl, HT8, hb8⟩; have HB8 : Hid (Below w7.heap.size w7 w8) := (Below.refl _ _).drew.trans (hb8.mono (Nat.le_refl _)); clear hb8) | (go_at_call 28; refine (toMatch _ _ _ _ _ _ _ _).mono ?_; rintro e w9 ⟨rfl, hb9⟩; have HB9 : Hid (Below w7.heap.size w7 w9) := HB8.out.trans (hb9.mono HB8.out.size); have HT9 : Hid (WsAt 0 w9 (some ⟨g7, 0, none⟩) n wk) := HT8.out.below hb9; clear hb9) | (go_at_call 26; refine (fieldsAt26 w9 _ _ _ wk _ _ _ _ _ _ _ ms _ hn1 hm2 HRc HT9 (HA7.out.below HB9.out) (Below.refl _ _)).mono ?_; rintro e w10 ⟨pf, nf, cf, rfl, HF10, hb10⟩; have HB10 : Hid (Below w7.heap.size w7 w10) := HB9.out.trans (hb10.mono HB9.out.size); clear hb10) | fail)
      have HX10 : Hid (Bx w10 w.heap.size (.int .i64 off) (.slice q1 n1 d1) (.slice q2 n2 d2)) := HX7.out.below HB10.out
      have HW10 : Hid (WsAt 0 w10 pc n wk) := HW7.out.below HB10.out
      have HA10 : Hid (BSl w10 q2 n2 d2 ms) := HA7.out.below HB10.out
      have HBw : Hid (Below w.heap.size w w10) := HB7.out.trans (HB10.out.mono HB7.out.size)
      clear SK HX7 HW7 HA7 HB7 HB8 HB9 HB10 HT8 HT9
      obtain ⟨sh, ak, hcase, hs1, hs2, hs3, hs4, hs5, hs6⟩ := fields_brackets (off := off) (ws := wk) (msk := ms) HA10.out.2.1.2.1
      have HS1 : Hid (SubB sh ms) := hs1
      have HS2 : Hid (SubB ms ak) := hs2
      have HS3 : Hid (allB 0 sh = allB 0 ms) := hs3
      have HS4 : Hid (∀ y ∈ selW off n2 wk, SubB y ak) := by rw [HA10.out.1]; exact hs4
      have HS5 : Hid (sh.length = n2 ∧ ak.length = n2) := ⟨by rw [hs5, HA10.out.1], by rw [hs6, HA10.out.1]⟩
      clear hs1 hs2 hs3 hs4 hs5 hs6
      have hor : ∃ k, (nf = k + 1 ∧ k < 2) ∧ (fieldsOf off ms wk)[0]? = some (off, sh) ∧ (fieldsOf off ms wk)[k]? = some (off, ak) ∧ (∀ f ∈ fieldsOf off ms wk, f.1 = off ∧ f.2.length = n2) ∧ (k = 1 → sh ≠ ak) := by
        have hlen := HF10.out.1
        rcases hcase with ⟨e, rfl⟩ | ⟨e, hne⟩
        · rw [e] at hlen ⊢
          exact ⟨0, ⟨hlen, by omega⟩, rfl, rfl, fun f hf => by simp at hf; subst hf; exact ⟨rfl, HS5.out.1⟩, fun h => by cases h⟩
        · rw [e] at hlen ⊢
          exact ⟨1, ⟨hlen, by omega⟩, rfl, rfl, fun f hf => by simp at hf; rcases hf with rfl | rfl; exact ⟨rfl, HS5.out.1⟩; exact ⟨rfl, HS5.out.2⟩, fun _ => hne⟩
      clear hcase
      obtain ⟨kl, ⟨hnf, hkl⟩, HFst', HLst', HAll', HNe'⟩ := hor
      have HFst : Hid ((fieldsOf off ms wk)[0]? = some (off, sh)) := HFst'
      have HLst : Hid ((fieldsOf off ms wk)[kl]? = some (off, ak)) := HLst'
      have HAll : Hid (∀ f ∈ fieldsOf off ms wk, f.1 = off ∧ f.2.length = n2) := HAll'
      have HNe : Hid (kl = 1 → sh ≠ ak) := HNe'
      clear HFst' HLst' HAll' HNe'
      have hk01 : kl = 0 ∨ kl = 1 := by omega
      clear hkl
      rcases hk01 with rfl | rfl
      · have hnf' : 1 = nf := hnf.symm
        clear hnf
        subst hnf'
        have HFS : Hid (FldAt w10 pf 1 (fieldsOf off ms wk)) := HF10.out
        clear HF10
        go_wp2
        go_loopw [6] (fun i wr => ∃ k : Nat, k ≤ 1 ∧ i = .int .i64 k ∧ Hid (Below w10.heap.size w10 wr)) (fun i _ => 1 - (intOf i).toNat)
        case atStart => exact ⟨0, Nat.zero_le _, rfl, Below.refl _ _⟩
        case round =>
          rename World => wr
          obtain ⟨k, hk, rfl, HBr⟩ := hrel
          by_cases hlt : k < 1
          · obtain ⟨of2, xs, bf, ofs, pk, nk, ck, HFk, rfl, A0, A1, HXk⟩ := (HFS.out.below HBr.out).get hlt
            have hall := HAll.out _ (List.mem_of_getElem? HFk.out)
            have eo : off = of2 := hall.1.symm
            have en : n2 = nk := (HXk.out.1.trans hall.2).symm
            clear hall
            subst eo
            subst en
            obtain ⟨⟨x0, x1, x2⟩, _, _⟩ := HX10.out.below HBr.out
            have SK : Hid (∀ w', Below wr.heap.size wr w' → (w'.cell? ⟨bf, ofs + k * 2, none⟩ = some (.int .i64 off) ∧ w'.cell? ⟨bf, ofs + k * 2 + 1, none⟩ = some (.slice pk n2 ck)) ∧ (w'.cell? ⟨w.heap.size, 0, none⟩ = some (.int .i64 off) ∧ w'.cell? ⟨w.heap.size, 2, none⟩ = some (.slice q2 n2 d2))) := fun _ hb => ⟨⟨cell_later hb A0, cell_later hb A1⟩, cell_later hb x0, cell_later hb x2⟩
            go_wp2
            go_region_held3 (fun w' => (w'.cell? ⟨bf, ofs + k * 2, none⟩ = some (.int .i64 off) ∧ w'.cell? ⟨bf, ofs + k * 2 + 1, none⟩ = some (.slice pk n2 ck)) ∧ (w'.cell? ⟨w.heap.size, 0, none⟩ = some (.int .i64 off) ∧ w'.cell? ⟨w.heap.size, 2, none⟩ = some (.slice q2 n2 d2)))
              (first | exact SK.out _ HB11.out | exact SK.out _ (Below.refl _ _).drew | fail)
              (first | (go_at_call 29; refine (foffB _ _ _ _ _).mono ?_; rintro e w11 ⟨rfl, hb11⟩; have HB11 : Hid (Below wr.heap.size wr w11) := (Below.refl _ _).drew.trans (hb11.mono (Nat.le_refl _)); clear hb11) | fail)
            obtain ⟨⟨C0, C1⟩, D0, D2⟩ := SK.out _ HB11.out
            clear A0 A1 x0 x1 x2
            go_wp2
            go_region_held3 (fun w' => (w'.cell? ⟨bf, ofs + k * 2, none⟩ = some (.int .i64 off) ∧ w'.cell? ⟨bf, ofs + k * 2 + 1, none⟩ = some (.slice pk n2 ck)) ∧ (w'.cell? ⟨w.heap.size, 0, none⟩ = some (.int .i64 off) ∧ w'.cell? ⟨w.heap.size, 2, none⟩ = some (.slice q2 n2 d2)))
              (first | exact SK.out _ HB12.out | exact SK.out _ HB11.out.drew | fail)
              (first | (go_at_call 30; refine (fmaskB _ _ _ _ _).mono ?_; rintro e w12 ⟨rfl, hb12⟩; have HB12 : Hid (Below wr.heap.size wr w12) := HB11.out.drew.trans (hb12.mono HB11.out.size); clear hb12) | fail)
            go_wp2
            go_roundw
            case rel => exact ⟨k + 1, by omega, by go_num, HBr.out.trans (HB12.out.mono HBr.out.size)⟩
            case measure => simp [intOf]; omega
          · obtain ⟨bf, ofs, p7, n7, c7, hpf, ⟨A0, A1⟩, B7⟩ := (HFS.out.below HBr.out).2 0 (off, sh) HFst.out
            obtain ⟨bf', ofs', p8, n8, c8, hpf', ⟨L0, L1⟩, B8⟩ := (HFS.out.below HBr.out).2 _ (off, ak) HLst.out
            subst hpf
            simp only [Option.some.injEq, Addr.mk.injEq, and_true] at hpf'
            obtain ⟨rfl, rfl⟩ := hpf'
            have e7 : n2 = n7 := by rw [B7.1]; exact HS5.out.1.symm
            have e8 : n2 = n8 := by rw [B8.1]; exact HS5.out.2.symm
            subst e7
            subst e8
            rw [Nat.zero_mul, Nat.add_zero] at A0 A1
            rw [Nat.zero_mul, Nat.add_zero] at L0 L1
            have H7 : Hid (BSl wr p7 n2 c7 sh) := B7
            have H8 : Hid (BSl wr p8 n2 c8 ak) := B8
            have HBox : Hid (Bx wr w.heap.size (.int .i64 off) (.slice q1 n1 d1) (.slice q2 n2 d2)) := HX10.out.below HBr.out
            have HAr : Hid (BSl wr q2 n2 d2 ms) := HA10.out.below HBr.out
            clear B7 B8
            obtain ⟨bb, hbb⟩ : ∃ b, b = !allB 0 ms := ⟨_, rfl⟩
            have HBB : Hid (bb = !allB 0 ms) := hbb
            have HBS : Hid (bb = !allB 0 sh) := by rw [HS3.out]; exact hbb
            clear hbb
            go_wp2_with fail
            refine (fmaskB _ _ _ _ _).mono ?_
            rintro e w11 ⟨rfl, hb11⟩
            have L0' := cell_later hb11 L0
            have L1' := cell_later hb11 L1
            have HB11 : Hid (Below wr.heap.size wr w11) := hb11
            clear A0 A1 L0 L1 hb11
            go_wp2_with fail
            refine (fmaskB _ _ _ _ _).mono ?_
            rintro e w12 ⟨rfl, hb12⟩
            have HB12 : Hid (Below wr.heap.size wr w12) := HB11.out.trans (hb12.mono HB11.out.size)
            clear L0' L1' hb12 HB11
            obtain ⟨⟨x0, x1, x2⟩, _, _⟩ := HBox.out.below HB12.out
            go_wp2_with fail
            refine (submaskB _ _ _ _ _ sh ms _ hm2 (H7.out.below HB12.out) (HAr.out.below HB12.out) HS1).mono ?_
            rintro e w13 ⟨rfl, hb13⟩
            have HB13 : Hid (Below wr.heap.size wr w13) := HB12.out.trans (hb13.mono HB12.out.size)
            clear x0 x1 x2 hb13 HB12
            obtain ⟨⟨x0, x1, x2⟩, _, _⟩ := HBox.out.below HB13.out
            go_wp2_with fail
            refine (submaskB _ _ _ _ _ ms ak _ hm2 (HAr.out.below HB13.out) (H8.out.below HB13.out) HS2).mono ?_
            rintro e w14 ⟨rfl, hb14⟩
            have HB14 : Hid (Below wr.heap.size wr w14) := HB13.out.trans (hb14.mono HB13.out.size)
            clear x0 x1 x2 hb14 HB13
            obtain ⟨⟨x0, x1, x2⟩, _, _⟩ := HBox.out.below HB14.out
            have SK14 : Hid (∀ w', Below w14.heap.size w14 w' → w'.cell? ⟨w.heap.size, 2, none⟩ = some (.slice q2 n2 d2)) := fun _ hb => cell_later hb x2
            have HB14d : Hid (Below wr.heap.size wr w14.drew) := HB14.out.drew
            go_wp2
            go_region_held3 (fun w' => w'.cell? ⟨w.heap.size, 2, none⟩ = some (.slice q2 n2 d2))
              (first | exact SK14.out _ (Below.refl _ _).drew | fail)
              (first | (go_at_call_of 32 (Value.slice p7 n2 c7); refine (sets32 _ _ _ sh _ bb hm2 (H7.out.below HB14d.out) HBS).mono ?_; rintro e w' ⟨rfl, rfl⟩) | (go_at_call 32; refine (sets32 _ _ _ ms _ bb hm2 (HAr.out.below HB14d.out) HBB).mono ?_; rintro e w' ⟨rfl, rfl⟩) | fail)
            clear x0 x1 x2
            have HBz : Hid (Below wr.heap.size wr w14.drew) := HB14d.out
            clear HB14 HB14d SK14
            go_wp2
            go_loopw [9, 10, 11] (fun i _ _ wv => ∃ t : Nat, t ≤ n ∧ i = .int .i64 t ∧ Hid (Below wr.heap.size wr wv)) (fun i _ _ _ => n - (intOf i).toNat)
            case atStart => exact ⟨0, Nat.zero_le _, rfl, HBz⟩
            case round =>
              rename World => wv
              obtain ⟨t, ht, rfl, HBv⟩ := hrel
              clear HBz
              by_cases hlt2 : t < n
              · obtain ⟨s, mm, b, o, p', n', c', HSt, rfl, g0, g1, HMs⟩ := ((HW10.out.below HBr.out).below HBv.out).get hlt2
                have hn' : n' ≤ 1048576 := by rw [HMs.out.1]; exact HRc.out (s, mm) (List.mem_of_getElem? HSt.out)
                go_wp2
                go_loopw [11] (fun i wi => ∃ j : Nat, j ≤ n' ∧ i = .int .i64 j ∧ Hid (Below wv.heap.size wv wi)) (fun i _ => n' - (intOf i).toNat)
                case atStart => exact ⟨0, Nat.zero_le _, rfl, Below.refl _ _⟩
                case round =>
                  rename World => wi
                  obtain ⟨j, hj, rfl, HBi⟩ := hrel
                  clear g0 g1
                  by_cases hlt3 : j < n'
                  · obtain ⟨m, b2, o2, r1, m1, d1', r2, m2, d2', HMj, rfl, k0, k1, k2, HVj, HKj⟩ := (HMs.out.below HBi.out).get hlt3
                    obtain ⟨x, hx⟩ : ∃ x, x = m.off := ⟨_, rfl⟩
                    rw [← hx] at k0
                    have HX : Hid (x = m.off) := hx
                    clear hx
                    have HBri : Hid (Below wr.heap.size wr wi) := HBv.out.trans (HBi.out.mono HBv.out.size)
                    obtain ⟨⟨x0, x1, x2⟩, _, _⟩ := HBox.out.below HBri.out
                    clear x1 k1
                    by_cases hoff : x = off
                    · by_cases hlen : m2 = n2
                      · have hlen' : n2 = m2 := hlen.symm
                        have hoff' : off = x := hoff.symm
                        clear hlen hoff
                        subst hlen'
                        subst hoff'
                        have HSu : Hid (SubB m.msk ak) := HS4.out _ (mem_selW (List.mem_of_getElem? HSt.out) (List.mem_of_getElem? HMj.out) ⟨HX.out.symm, HKj.out.1.1.symm⟩)
                        have SKi : Hid (∀ w', Below wi.heap.size wi w' → (w'.cell? ⟨b2, o2 + j * 3, none⟩ = some (.int .i64 off) ∧ w'.cell? ⟨b2, o2 + j * 3 + 2, none⟩ = some (.slice r2 n2 d2')) ∧ (w'.cell? ⟨w.heap.size, 0, none⟩ = some (.int .i64 off) ∧ w'.cell? ⟨w.heap.size, 2, none⟩ = some (.slice q2 n2 d2))) := fun _ hb => ⟨⟨cell_later hb k0, cell_later hb k2⟩, cell_later hb x0, cell_later hb x2⟩
                        have HKd : Hid (BSl wi.drew r2 n2 d2' m.msk) := HKj.out.1.below (Below.refl _ _).drew
                        have H8d : Hid (BSl wi.drew p8 n2 c8 ak) := (H8.out.below HBri.out).below (Below.refl _ _).drew
                        go_wp2
                        go_region_held3 (fun w' => (w'.cell? ⟨b2, o2 + j * 3, none⟩ = some (.int .i64 off) ∧ w'.cell? ⟨b2, o2 + j * 3 + 2, none⟩ = some (.slice r2 n2 d2')) ∧ (w'.cell? ⟨w.heap.size, 0, none⟩ = some (.int .i64 off) ∧ w'.cell? ⟨w.heap.size, 2, none⟩ = some (.slice q2 n2 d2)))
                          (first | exact SKi.out _ HB21.out | exact SKi.out _ (Below.refl _ _).drew | fail)
                          (first | (go_at_call 31; refine (submaskB _ _ _ _ _ m.msk ak _ hm2 HKd H8d HSu).mono ?_; rintro e w21 ⟨rfl, hb21⟩; have HB21 : Hid (Below wi.heap.size wi w21) := (Below.refl _ _).drew.trans (hb21.mono (Nat.le_refl _)); clear hb21) | fail)
                        go_wp2
                        go_roundw
                        case rel => exact ⟨j + 1, by omega, by go_num, HBi.out.trans (HB21.out.mono HBi.out.size)⟩
                        case measure => simp [intOf]; omega
                      · have e1 : (x == off) = true := by simpa using hoff
                        have e2 : ((m2 : Int) == (n2 : Int)) = false := by rw [beq_eq_false_iff_ne]; intro h; exact hlen (by omega)
                        clear hoff
                        go_wp2
                        go_quiet (fail)
                        go_wp2
                        go_roundw
                        case rel => exact ⟨j + 1, by omega, by go_num, below_drewN HBi.out _⟩
                        case measure => simp [intOf]; omega
                    · have e1 : (x == off) = false := by simpa using hoff
                      clear hoff
                      go_wp2
                      go_quiet (fail)
                      go_wp2
                      go_roundw
                      case rel => exact ⟨j + 1, by omega, by go_num, below_drewN HBi.out _⟩
                      case measure => simp [intOf]; omega
                  · go_wp2
                    go_roundw
                    case rel => exact ⟨t + 1, by omega, by go_num, HBv.out.trans (HBi.out.mono HBv.out.size)⟩
                    case measure => simp [intOf]; omega
              · go_wp2
                go_ret
                exact ⟨rfl, HBw.out.trans ((HBr.out.trans (HBv.out.mono HBr.out.size)).mono HBw.out.size)⟩
      · have hnf' : 2 = nf := hnf.symm
        clear hnf
        subst hnf'
        have HFS : Hid (FldAt w10 pf 2 (fieldsOf off ms wk)) := HF10.out
        clear HF10
        go_wp2
        go_loopw [6] (fun i wr => ∃ k : Nat, k ≤ 2 ∧ i = .int .i64 k ∧ Hid (Below w10.heap.size w10 wr)) (fun i _ => 2 - (intOf i).toNat)
        case atStart => exact ⟨0, Nat.zero_le _, rfl, Below.refl _ _⟩
        case round =>
          rename World => wr
          obtain ⟨k, hk, rfl, HBr⟩ := hrel
          by_cases hlt : k < 2
          · obtain ⟨of2, xs, bf, ofs, pk, nk, ck, HFk, rfl, A0, A1, HXk⟩ := (HFS.out.below HBr.out).get hlt
            have hall := HAll.out _ (List.mem_of_getElem? HFk.out)
            have eo : off = of2 := hall.1.symm
            have en : n2 = nk := (HXk.out.1.trans hall.2).symm
            clear hall
            subst eo
            subst en
            obtain ⟨⟨x0, x1, x2⟩, _, _⟩ := HX10.out.below HBr.out
            have SK : Hid (∀ w', Below wr.heap.size wr w' → (w'.cell? ⟨bf, ofs + k * 2, none⟩ = some (.int .i64 off) ∧ w'.cell? ⟨bf, ofs + k * 2 + 1, none⟩ = some (.slice pk n2 ck)) ∧ (w'.cell? ⟨w.heap.size, 0, none⟩ = some (.int .i64 off) ∧ w'.cell? ⟨w.heap.size, 2, none⟩ = some (.slice q2 n2 d2))) := fun _ hb => ⟨⟨cell_later hb A0, cell_later hb A1⟩, cell_later hb x0, cell_later hb x2⟩
            go_wp2
            go_region_held3 (fun w' => (w'.cell? ⟨bf, ofs + k * 2, none⟩ = some (.int .i64 off) ∧ w'.cell? ⟨bf, ofs + k * 2 + 1, none⟩ = some (.slice pk n2 ck)) ∧ (w'.cell? ⟨w.heap.size, 0, none⟩ = some (.int .i64 off) ∧ w'.cell? ⟨w.heap.size, 2, none⟩ = some (.slice q2 n2 d2)))
              (first | exact SK.out _ HB11.out | exact SK.out _ (Below.refl _ _).drew | fail)
              (first | (go_at_call 29; refine (foffB _ _ _ _ _).mono ?_; rintro e w11 ⟨rfl, hb11⟩; have HB11 : Hid (Below wr.heap.size wr w11) := (Below.refl _ _).drew.trans (hb11.mono (Nat.le_refl _)); clear hb11) | fail)
            obtain ⟨⟨C0, C1⟩, D0, D2⟩ := SK.out _ HB11.out
            clear A0 A1 x0 x1 x2
            go_wp2
            go_region_held3 (fun w' => (w'.cell? ⟨bf, ofs + k * 2, none⟩ = some (.int .i64 off) ∧ w'.cell? ⟨bf, ofs + k * 2 + 1, none⟩ = some (.slice pk n2 ck)) ∧ (w'.cell? ⟨w.heap.size, 0, none⟩ = some (.int .i64 off) ∧ w'.cell? ⟨w.heap.size, 2, none⟩ = some (.slice q2 n2 d2)))
              (first | exact SK.out _ HB12.out | exact SK.out _ HB11.out.drew | fail)
              (first | (go_at_call 30; refine (fmaskB _ _ _ _ _).mono ?_; rintro e w12 ⟨rfl, hb12⟩; have HB12 : Hid (Below wr.heap.size wr w12) := HB11.out.drew.trans (hb12.mono HB11.out.size); clear hb12) | fail)
            go_wp2
            go_roundw
            case rel => exact ⟨k + 1, by omega, by go_num, HBr.out.trans (HB12.out.mono HBr.out.size)⟩
            case measure => simp [intOf]; omega
          · obtain ⟨bf, ofs, p7, n7, c7, hpf, ⟨A0, A1⟩, B7⟩ := (HFS.out.below HBr.out).2 0 (off, sh) HFst.out
            obtain ⟨bf', ofs', p8, n8, c8, hpf', ⟨L0, L1⟩, B8⟩ := (HFS.out.below HBr.out).2 _ (off, ak) HLst.out
            subst hpf
            simp only [Option.some.injEq, Addr.mk.injEq, and_true] at hpf'
            obtain ⟨rfl, rfl⟩ := hpf'
            have e7 : n2 = n7 := by rw [B7.1]; exact HS5.out.1.symm
            have e8 : n2 = n8 := by rw [B8.1]; exact HS5.out.2.symm
            subst e7
            subst e8
            rw [Nat.zero_mul, Nat.add_zero] at A0 A1
            rw [Nat.one_mul] at L0 L1
            have H7 : Hid (BSl wr p7 n2 c7 sh) := B7
            have H8 : Hid (BSl wr p8 n2 c8 ak) := B8
            have HBox : Hid (Bx wr w.heap.size (.int .i64 off) (.slice q1 n1 d1) (.slice q2 n2 d2)) := HX10.out.below HBr.out
            have HAr : Hid (BSl wr q2 n2 d2 ms) := HA10.out.below HBr.out
            clear B7 B8
            obtain ⟨bb, hbb⟩ : ∃ b, b = !allB 0 ms := ⟨_, rfl⟩
            have HBB : Hid (bb = !allB 0 ms) := hbb
            have HBS : Hid (bb = !allB 0 sh) := by rw [HS3.out]; exact hbb
            clear hbb
            go_wp2_with fail
            refine (fmaskB _ _ _ _ _).mono ?_
            rintro e w11 ⟨rfl, hb11⟩
            have L0' := cell_later hb11 L0
            have L1' := cell_later hb11 L1
            have HB11 : Hid (Below wr.heap.size wr w11) := hb11
            clear A0 A1 L0 L1 hb11
            go_wp2_with fail
            refine (fmaskB _ _ _ _ _).mono ?_
            rintro e w12 ⟨rfl, hb12⟩
            have HB12 : Hid (Below wr.heap.size wr w12) := HB11.out.trans (hb12.mono HB11.out.size)
            clear L0' L1' hb12 HB11
            obtain ⟨⟨x0, x1, x2⟩, _, _⟩ := HBox.out.below HB12.out
            go_wp2_with fail
            refine (submaskB _ _ _ _ _ sh ms _ hm2 (H7.out.below HB12.out) (HAr.out.below HB12.out) HS1).mono ?_
            rintro e w13 ⟨rfl, hb13⟩
            have HB13 : Hid (Below wr.heap.size wr w13) := HB12.out.trans (hb13.mono HB12.out.size)
            clear x0 x1 x2 hb13 HB12
            obtain ⟨⟨x0, x1, x2⟩, _, _⟩ := HBox.out.below HB13.out
            go_wp2_with fail
            refine (submaskB _ _ _ _ _ ms ak _ hm2 (HAr.out.below HB13.out) (H8.out.below HB13.out) HS2).mono ?_
            rintro e w14 ⟨rfl, hb14⟩
            have HB14 : Hid (Below wr.heap.size wr w14) := HB13.out.trans (hb14.mono HB13.out.size)
            clear x0 x1 x2 hb14 HB13
            obtain ⟨⟨x0, x1, x2⟩, _, _⟩ := HBox.out.below HB14.out
            have SK14 : Hid (∀ w', Below w14.heap.size w14 w' → w'.cell? ⟨w.heap.size, 2, none⟩ = some (.slice q2 n2 d2)) := fun _ hb => cell_later hb x2
            have HB14d : Hid (Below wr.heap.size wr w14.drew) := HB14.out.drew
            go_wp2
            go_region_held3 (fun w' => w'.cell? ⟨w.heap.size, 2, none⟩ = some (.slice q2 n2 d2))
              (first | exact SK14.out _ (Below.refl _ _).drew | fail)
              (first | (go_at_call_of 32 (Value.slice p7 n2 c7); refine (sets32 _ _ _ sh _ bb hm2 (H7.out.below HB14d.out) HBS).mono ?_; rintro e w' ⟨rfl, rfl⟩) | (go_at_call 32; refine (sets32 _ _ _ ms _ bb hm2 (HAr.out.below HB14d.out) HBB).mono ?_; rintro e w' ⟨rfl, rfl⟩) | fail)
            clear x0 x1 x2
            go_wp2_with fail
            refine (equal_no _ _ _ _ _ sh ak _ hm2 (H7.out.below HB14d.out) (H8.out.below HB14d.out) (HNe.out trivial)).mono ?_
            rintro e w15 ⟨rfl, hb15⟩
            have HBz : Hid (Below wr.heap.size wr w15) := HB14d.out.trans (hb15.mono HB14d.out.size)
            clear HB14 HB14d SK14 hb15
            go_wp2
            go_loopw [9, 10, 11] (fun i _ _ wv => ∃ t : Nat, t ≤ n ∧ i = .int .i64 t ∧ Hid (Below wr.heap.size wr wv)) (fun i _ _ _ => n - (intOf i).toNat)
            case atStart => exact ⟨0, Nat.zero_le _, rfl, HBz⟩
            case round =>
              rename World => wv
              obtain ⟨t, ht, rfl, HBv⟩ := hrel
              clear HBz
              by_cases hlt2 : t < n
              · obtain ⟨s, mm, b, o, p', n', c', HSt, rfl, g0, g1, HMs⟩ := ((HW10.out.below HBr.out).below HBv.out).get hlt2
                have hn' : n' ≤ 1048576 := by rw [HMs.out.1]; exact HRc.out (s, mm) (List.mem_of_getElem? HSt.out)
                go_wp2
                go_loopw [11] (fun i wi => ∃ j : Nat, j ≤ n' ∧ i = .int .i64 j ∧ Hid (Below wv.heap.size wv wi)) (fun i _ => n' - (intOf i).toNat)
                case atStart => exact ⟨0, Nat.zero_le _, rfl, Below.refl _ _⟩
                case round =>
                  rename World => wi
                  obtain ⟨j, hj, rfl, HBi⟩ := hrel
                  clear g0 g1
                  by_cases hlt3 : j < n'
                  · obtain ⟨m, b2, o2, r1, m1, d1', r2, m2, d2', HMj, rfl, k0, k1, k2, HVj, HKj⟩ := (HMs.out.below HBi.out).get hlt3
                    obtain ⟨x, hx⟩ : ∃ x, x = m.off := ⟨_, rfl⟩
                    rw [← hx] at k0
                    have HX : Hid (x = m.off) := hx
                    clear hx
                    have HBri : Hid (Below wr.heap.size wr wi) := HBv.out.trans (HBi.out.mono HBv.out.size)
                    obtain ⟨⟨x0, x1, x2⟩, _, _⟩ := HBox.out.below HBri.out
                    clear x1 k1
                    by_cases hoff : x = off
                    · by_cases hlen : m2 = n2
                      · have hlen' : n2 = m2 := hlen.symm
                        have hoff' : off = x := hoff.symm
                        clear hlen hoff
                        subst hlen'
                        subst hoff'
                        have HSu : Hid (SubB m.msk ak) := HS4.out _ (mem_selW (List.mem_of_getElem? HSt.out) (List.mem_of_getElem? HMj.out) ⟨HX.out.symm, HKj.out.1.1.symm⟩)
                        have SKi : Hid (∀ w', Below wi.heap.size wi w' → (w'.cell? ⟨b2, o2 + j * 3, none⟩ = some (.int .i64 off) ∧ w'.cell? ⟨b2, o2 + j * 3 + 2, none⟩ = some (.slice r2 n2 d2')) ∧ (w'.cell? ⟨w.heap.size, 0, none⟩ = some (.int .i64 off) ∧ w'.cell? ⟨w.heap.size, 2, none⟩ = some (.slice q2 n2 d2))) := fun _ hb => ⟨⟨cell_later hb k0, cell_later hb k2⟩, cell_later hb x0, cell_later hb x2⟩
                        have HKd : Hid (BSl wi.drew r2 n2 d2' m.msk) := HKj.out.1.below (Below.refl _ _).drew
                        have H8d : Hid (BSl wi.drew p8 n2 c8 ak) := (H8.out.below HBri.out).below (Below.refl _ _).drew
                        go_wp2
                        go_region_held3 (fun w' => (w'.cell? ⟨b2, o2 + j * 3, none⟩ = some (.int .i64 off) ∧ w'.cell? ⟨b2, o2 + j * 3 + 2, none⟩ = some (.slice r2 n2 d2')) ∧ (w'.cell? ⟨w.heap.size, 0, none⟩ = some (.int .i64 off) ∧ w'.cell? ⟨w.heap.size, 2, none⟩ = some (.slice q2 n2 d2)))
                          (first | exact SKi.out _ HB21.out | exact SKi.out _ (Below.refl _ _).drew | fail)
                          (first | (go_at_call 31; refine (submaskB _ _ _ _ _ m.msk ak _ hm2 HKd H8d HSu).mono ?_; rintro e w21 ⟨rfl, hb21⟩; have HB21 : Hid (Below wi.heap.size wi w21) := (Below.refl _ _).drew.trans (hb21.mono (Nat.le_refl _)); clear hb21) | fail)
                        go_wp2
                        go_roundw
                        case rel => exact ⟨j + 1, by omega, by go_num, HBi.out.trans (HB21.out.mono HBi.out.size)⟩
                        case measure => simp [intOf]; omega
                      · have e1 : (x == off) = true := by simpa using hoff
                        have e2 : ((m2 : Int) == (n2 : Int)) = false := by rw [beq_eq_false_iff_ne]; intro h; exact hlen (by omega)
                        clear hoff
                        go_wp2
                        go_quiet (fail)
                        go_wp2
                        go_roundw
                        case rel => exact ⟨j + 1, by omega, by go_num, below_drewN HBi.out _⟩
                        case measure => simp [intOf]; omega
                    · have e1 : (x == off) = false := by simpa using hoff
                      clear hoff
                      go_wp2
                      go_quiet (fail)
                      go_wp2
                      go_roundw
                      case rel => exact ⟨j + 1, by omega, by go_num, below_drewN HBi.out _⟩
                      case measure => simp [intOf]; omega
                  · go_wp2
                    go_roundw
                    case rel => exact ⟨t + 1, by omega, by go_num, HBv.out.trans (HBi.out.mono HBv.out.size)⟩
                    case measure => simp [intOf]; omega
              · go_wp2
                go_ret
                exact ⟨rfl, HBw.out.trans ((HBr.out.trans (HBv.out.mono HBr.out.size)).mono HBw.out.size)⟩
    · have hsum' : 1048576 < t1 + t2 := by omega
      clear hsum
      go_wp2
      go_ret
      exact ⟨rfl, HW4.out⟩

end Go.Proofs.Qxb6000440aMods
