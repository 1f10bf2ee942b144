import Derived.Test.Qxb6000440aModsRowsOwn
namespace Go.Proofs.Qxb6000440aMods
open Go.RowKit

theorem Trym.info43 : (Trym.prog.info? 43).map (fun i => (i.zero, i.size, i.bytes)) = some (some (.agg #[.int .i64 0, .slice none 0 0, .slice none 0 0]), 3, 56) := by kernel_rfl
theorem Trym.info54 : (Trym.prog.info? 54).map (fun i => (i.zero, i.size, i.bytes)) = some (some (.agg #[.int .i64 0, .slice none 0 0]), 2, 32) := by kernel_rfl

theorem grown_of_below {w w' : World} (h : Below w.heap.size w w') (row : Option Nat) : w.grownBy w' row := ⟨h.os, h.tape, h.output, h.size, fun k hk _ => h.block k hk⟩

/-- The slice value v leads to a block behind g whose cells are those of the matches ms. -/
def CopyMs (w wr : World) (g : Nat) (ms : List Mt) (v : Value) : Prop :=
  ∃ gi ci p, v = .slice (some ⟨gi, 0, none⟩) ms.length ci ∧ g < gi ∧ MsAt 0 w p ms.length ms ∧ ∀ b o t u, p = some ⟨b, o, none⟩ → t < ms.length * 3 → w.cell? ⟨b, o + t, none⟩ = some u → wr.cell? ⟨gi, t, none⟩ = some u

theorem CopyMs.grown {w wr wr' : World} {g : Nat} {ms : List Mt} {v : Value} (h : CopyMs w wr g ms v) (hg : wr.grownBy wr' (some g)) : CopyMs w wr' g ms v := by
  obtain ⟨gi, ci, p, hv, hgi, hm, hc⟩ := h
  exact ⟨gi, ci, p, hv, hgi, hm, fun b o t u hp ht hu => hg.cell (hc b o t u hp ht hu) (by simp; omega)⟩

theorem CopyMs.at {w wr : World} {g : Nat} {ms : List Mt} {v : Value} (h : CopyMs w wr g ms v) (hb : Below w.heap.size w wr) : ∃ p c, v = .slice p ms.length c ∧ MsAt 0 wr p ms.length ms := by
  obtain ⟨gi, ci, p, hv, hgi, hm, hc⟩ := h
  refine ⟨_, ci, hv, rfl, fun i m hi => ?_⟩
  obtain ⟨b, o, p1, n1, c1, p2, n2, c2, hp, _, ⟨h0, h1, h2⟩, k1, k2⟩ := hm.2 i m hi
  have hlt : i < ms.length := (List.getElem?_eq_some_iff.1 hi).1
  refine ⟨gi, 0, p1, n1, c1, p2, n2, c2, rfl, Nat.zero_le _, ⟨?_, ?_, ?_⟩, k1.below hb, k2.below hb⟩
  · rw [Nat.zero_add]; exact hc b o _ _ hp (by omega) h0
  · rw [Nat.zero_add]; exact hc b o _ _ hp (by omega) (by rw [← Nat.add_assoc]; exact h1)
  · rw [Nat.zero_add]; exact hc b o _ _ hp (by omega) (by rw [← Nat.add_assoc]; exact h2)

/-- The first k routes have been built into block g. -/
def OutRow (w wr : World) (g k n : Nat) (ws : List (Int × List Mt)) : Prop :=
  ∃ xs, wr.ownsRow 0 54 2 (.slice (some ⟨g, 0, none⟩) k n) k xs ∧ ∀ i r, i < k → ws[i]? = some r → ∃ v, xs[i * 2]? = some (.int .i64 r.1) ∧ xs[i * 2 + 1]? = some v ∧ CopyMs w wr g r.2 v

theorem OutRow.below {w wr wr' : World} {g k n : Nat} {ws : List (Int × List Mt)} (h : OutRow w wr g k n ws) (hb : Below wr.heap.size wr wr') : OutRow w wr' g k n ws := by
  obtain ⟨xs, h1, h2⟩ := h
  refine ⟨xs, own_below h1 hb, fun i r hi hr => ?_⟩
  obtain ⟨v, x0, x1, hc⟩ := h2 i r hi hr
  exact ⟨v, x0, x1, hc.grown (grown_of_below hb _)⟩

theorem OutRow.at {w wr : World} {g n : Nat} {ws : List (Int × List Mt)} (h : OutRow w wr g n n ws) (hn : n = ws.length) (hb : Below w.heap.size w wr) : WsAt 0 wr (some ⟨g, 0, none⟩) n ws := by
  obtain ⟨xs, h1, h2⟩ := h
  refine ⟨hn, fun i r hr => ?_⟩
  have hi : i < n := by rw [hn]; exact (List.getElem?_eq_some_iff.1 hr).1
  obtain ⟨v, x0, x1, hc⟩ := h2 i r hi hr
  obtain ⟨p, c, rfl, hm⟩ := hc.at hb
  refine ⟨g, 0, p, _, c, rfl, Nat.zero_le _, ⟨?_, ?_⟩, hm⟩
  · rw [Nat.zero_add, h1.cellAt _ (by omega)]; exact x0
  · rw [Nat.zero_add, h1.cellAt _ (by omega)]; exact x1

/-- The first j matches have been built into block g. -/
def InRow (w wr : World) (g j n : Nat) (p : Option Addr) : Prop :=
  ∃ ys, wr.ownsRow 0 43 3 (.slice (some ⟨g, 0, none⟩) j n) j ys ∧ ∀ b o t u, p = some ⟨b, o, none⟩ → t < j * 3 → w.cell? ⟨b, o + t, none⟩ = some u → ys[t]? = some u

theorem InRow.below {w wr wr' : World} {g j n : Nat} {p : Option Addr} (h : InRow w wr g j n p) (hb : Below wr.heap.size wr wr') : InRow w wr' g j n p := by
  obtain ⟨ys, h1, h2⟩ := h
  exact ⟨ys, own_below h1 hb, h2⟩

theorem InRow.copy {w wr : World} {g g0 n : Nat} {p : Option Addr} {ms : List Mt} (h : InRow w wr g n n p) (hg : g0 < g) (hm : MsAt 0 w p n ms) : CopyMs w wr g0 ms (.slice (some ⟨g, 0, none⟩) n n) := by
  obtain ⟨ys, h1, h2⟩ := h
  have e := hm.1
  subst e
  exact ⟨g, _, p, rfl, hg, hm, fun b o t u hp ht hu => by rw [h1.cellAt t ht]; exact h2 b o t u hp ht hu⟩

theorem InRow.snoc {w wr : World} {g j n : Nat} {b o : Nat} {ys : List Value} {v0 v1 v2 : Value} (hl : ys.length = j * 3)
    (h2 : ∀ b' o' t u, some (⟨b, o, none⟩ : Addr) = some ⟨b', o', none⟩ → t < j * 3 → w.cell? ⟨b', o' + t, none⟩ = some u → ys[t]? = some u)
    (h1 : wr.ownsRow 0 43 3 (.slice (some ⟨g, 0, none⟩) (j + 1) n) (j + 1) (ys ++ [v0, v1, v2]))
    (k0 : w.cell? ⟨b, o + j * 3, none⟩ = some v0) (k1 : w.cell? ⟨b, o + j * 3 + 1, none⟩ = some v1) (k2 : w.cell? ⟨b, o + j * 3 + 2, none⟩ = some v2) : InRow w wr g (j + 1) n (some ⟨b, o, none⟩) := by
  refine ⟨_, h1, fun b' o' t u hp ht hu => ?_⟩
  by_cases hlt : t < j * 3
  · rw [List.getElem?_append_left (by omega)]
    exact h2 b' o' t u hp hlt hu
  · simp only [Option.some.injEq, Addr.mk.injEq, and_true] at hp
    obtain ⟨rfl, rfl⟩ := hp
    rw [List.getElem?_append_right (by omega), hl]
    have : t = j * 3 ∨ t = j * 3 + 1 ∨ t = j * 3 + 2 := by omega
    rcases this with rfl | rfl | rfl
    · rw [k0] at hu; simpa using hu
    · rw [← Nat.add_assoc, k1] at hu; simpa using hu
    · rw [← Nat.add_assoc, k2] at hu; simpa using hu

theorem OutRow.snoc {w w5 w6 : World} {g k n : Nat} {ws : List (Int × List Mt)} {xs : List Value} {s : Int} {ms : List Mt} {v : Value} (hl : xs.length = k * 2) (hr : ws[k]? = some (s, ms))
    (hx : ∀ i r, i < k → ws[i]? = some r → ∃ v, xs[i * 2]? = some (.int .i64 r.1) ∧ xs[i * 2 + 1]? = some v ∧ CopyMs w w5 g r.2 v) (hc : CopyMs w w5 g ms v)
    (hown : w6.ownsRow 0 54 2 (.slice (some ⟨g, 0, none⟩) (k + 1) n) (k + 1) (xs ++ [.int .i64 s, v])) (hg : w5.grownBy w6 (some g)) : OutRow w w6 g (k + 1) n ws := by
  refine ⟨_, hown, fun i r hi hir => ?_⟩
  by_cases hik : i < k
  · obtain ⟨u, x0, x1, hc'⟩ := hx i r hik hir
    exact ⟨u, by rw [List.getElem?_append_left (by omega)]; exact x0, by rw [List.getElem?_append_left (by omega)]; exact x1, hc'.grown hg⟩
  · have : i = k := by omega
    subst this
    rw [hr] at hir
    cases hir
    exact ⟨v, by rw [List.getElem?_append_right (by omega), hl]; simp, by rw [List.getElem?_append_right (by omega), hl]; simp, hc.grown hg⟩

theorem new_cells3 (W : World) (v0 v1 v2 : Value) (t : TypeId) : ∀ j u, [v0, v1, v2][j]? = some u → (W.alloc (.cells #[v0, v1, v2] t)).cell? ((⟨W.heap.size, 0, none⟩ : Addr).add j) = some u := by
  intro j u hj
  match j, hj with
  | 0, hj => simp at hj; subst hj; simp [Addr.add]
  | 1, hj => simp at hj; subst hj; simp [Addr.add]
  | 2, hj => simp at hj; subst hj; simp [Addr.add]

theorem new_cells2 (W : World) (v0 v1 : Value) (t : TypeId) : ∀ j u, [v0, v1][j]? = some u → (W.alloc (.cells #[v0, v1] t)).cell? ((⟨W.heap.size, 0, none⟩ : Addr).add j) = some u := by
  intro j u hj
  match j, hj with
  | 0, hj => simp at hj; subst hj; simp [Addr.add]
  | 1, hj => simp at hj; subst hj; simp [Addr.add]

theorem one3 (off : Int) (p1 p2 : Option Addr) (n1 c1 n2 c2 : Nat) : ∀ u ∈ [Value.int .i64 off, .slice p1 n1 c1, .slice p2 n2 c2], u.oneCell' = true := by
  intro u hu; simp at hu; rcases hu with rfl | rfl | rfl <;> rfl
theorem one2 (off : Int) (p1 : Option Addr) (n1 c1 : Nat) : ∀ u ∈ [Value.int .i64 off, .slice p1 n1 c1], u.oneCell' = true := by
  intro u hu; simp at hu; rcases hu with rfl | rfl <;> rfl

set_option maxHeartbeats 2000000 in
set_option maxRecDepth 100000 in
/-- lawToWalk: the same walk in the other package's types. -/
theorem toWalk (p : Option Addr) (n c : Nat) (ws : List (Int × List Mt)) (w : World) (hn : n ≤ 1048576) (HOK : Hid (RtOk ws)) (HW : Hid (WsAt 0 w p n ws)) :
    Calls Trym.prog 27 #[.slice p n c] w fun e w' => e = .returned (.slice (some ⟨w.heap.size, 0, none⟩) n n) ∧ Hid (WsAt 0 w' (some ⟨w.heap.size, 0, none⟩) n ws) ∧ Below w.heap.size w w' := by
  obtain ⟨i0, hi, hz0, hz1, hz2⟩ := info_parts Trym.info54
  have HZ2 : Hid (i0.bytes = 32) := hz2
  obtain ⟨j0, hj, hw0, hw1, hw2⟩ := info_parts Trym.info43
  have HW2 : Hid (j0.bytes = 56) := hw2
  clear hz2 hw2
  go_enter Trym.func27, Trym.ntmps27
  go_wp2_with (at_make; refine wpList_make_own _ rfl _ _ 39 rfl 0 54 i0 (.agg #[.int .i64 0, .slice none 0 0]) 2 Trym.underlying39 hi hz0 hz1 _ _ _ n rfl rfl rfl ?b2 ?b3 (Nat.zero_le _) ?_)
  case b2 => rw [HZ2.out]; omega
  case b3 => unfold maxLen; omega
  intro w1 hown hgrow
  have HR1 : Hid (OutRow w w1 w.heap.size 0 n ws) := ⟨[], hown, fun i r hi => absurd hi (Nat.not_lt_zero _)⟩
  have HB1 : Hid (Below w.heap.size w w1) := (Below.refl _ w).grown hgrow (Nat.le_refl _) (by intro k hk; cases hk)
  clear hown hgrow
  go_wp2
  go_loopw [3, 4, 5, 6] (fun v i _ _ wr => ∃ k : Nat, k ≤ n ∧ i = .int .i64 k ∧ v = .slice (some ⟨w.heap.size, 0, none⟩) k n ∧ Hid (OutRow w wr w.heap.size k n ws) ∧ Hid (Below w.heap.size w wr)) (fun _ i _ _ _ => n - (intOf i).toNat)
  case atStart => exact ⟨0, Nat.zero_le _, rfl, rfl, HR1, HB1⟩
  case round =>
    rename World => wo
    obtain ⟨k, hk, rfl, rfl, HR, HB⟩ := hrel
    clear HR1 HB1
    by_cases hlt : k < n
    · obtain ⟨s, ms, b, o, p', n', c', HS, rfl, G0, G1, HMs⟩ := HW.out.get hlt
      have hn' : n' ≤ 1048576 := by rw [HMs.out.1]; exact HOK.out (s, ms) (List.mem_of_getElem? HS.out)
      have G : Hid (w.cell? ⟨b, o + k * 2, none⟩ = some (.int .i64 s) ∧ w.cell? ⟨b, o + k * 2 + 1, none⟩ = some (.slice p' n' c')) := ⟨G0, G1⟩
      clear G0 G1
      have g0 := cell_later HB.out G.out.1
      have g1 := cell_later HB.out G.out.2
      go_wp2_with (at_make; refine wpList_make_own _ rfl _ _ 52 rfl 0 43 j0 (.agg #[.int .i64 0, .slice none 0 0, .slice none 0 0]) 3 Trym.underlying52 hj hw0 hw1 _ _ _ n' rfl rfl rfl ?b4 ?b5 (Nat.zero_le _) ?_)
      case b4 => rw [HW2.out]; omega
      case b5 => unfold maxLen; omega
      intro w2 hown hgrow
      have HM2 : Hid (InRow w w2 wo.heap.size 0 n' p') := ⟨[], hown, fun b o t u _ ht => absurd ht (by simp)⟩
      have HB2 : Hid (Below wo.heap.size wo w2) := (Below.refl _ wo).grown hgrow (Nat.le_refl _) (by intro k hk; cases hk)
      have HG : Hid (w.heap.size < wo.heap.size) := by
        obtain ⟨_, h1, _⟩ := HR.out
        exact own_lt h1
      clear hown hgrow g0 g1
      go_wp2
      go_loopw [5, 6] (fun v i wi => ∃ j : Nat, j ≤ n' ∧ i = .int .i64 j ∧ v = .slice (some ⟨wo.heap.size, 0, none⟩) j n' ∧ Hid (InRow w wi wo.heap.size j n' p') ∧ Hid (Below wo.heap.size wo wi)) (fun _ i _ => n' - (intOf i).toNat)
      case atStart => exact ⟨0, Nat.zero_le _, rfl, rfl, HM2, HB2⟩
      case round =>
        rename World => wi
        obtain ⟨j, hj', rfl, rfl, HMi, HBi⟩ := hrel
        clear HM2 HB2
        have HBw : Hid (Below w.heap.size w wi) := HB.out.trans (HBi.out.mono HB.out.size)
        have g0 := cell_later HBw.out G.out.1
        have g1 := cell_later HBw.out G.out.2
        by_cases hlt2 : j < n'
        · obtain ⟨m, b2, o2, r1, m1, d1, r2, m2, d2, HM, rfl, K0, K1, K2, HV, HK⟩ := HMs.out.get hlt2
          have KK : Hid (w.cell? ⟨b2, o2 + j * 3, none⟩ = some (.int .i64 m.off) ∧ w.cell? ⟨b2, o2 + j * 3 + 1, none⟩ = some (.slice r1 m1 d1) ∧ w.cell? ⟨b2, o2 + j * 3 + 2, none⟩ = some (.slice r2 m2 d2)) := ⟨K0, K1, K2⟩
          clear K0 K1 K2
          have k0 := cell_later HBw.out KK.out.1
          have k1 := cell_later HBw.out KK.out.2.1
          have k2 := cell_later HBw.out KK.out.2.2
          go_wp2_with fail
          refine (toMatch _ _ _ _ _ _ _ _).mono ?_
          rintro e w5 ⟨rfl, hb5⟩
          have HM5 := HMi.out.below hb5
          have HB5 : Hid (Below wo.heap.size wo w5) := HBi.out.trans (hb5.mono HBi.out.size)
          have hlow : wo.heap.size < w5.heap.size := by
            obtain ⟨_, h1, _⟩ := HM5
            exact own_lt h1
          obtain ⟨ys, hown, HYr⟩ := HM5
          have HY : Hid (∀ b' o' t u, some (⟨b2, o2, none⟩ : Addr) = some ⟨b', o', none⟩ → t < j * 3 → w.cell? ⟨b', o' + t, none⟩ = some u → ys[t]? = some u) := HYr
          clear HYr hb5 HMi HBi k0 k1 k2 g0 g1
          go_wp2_with (at_builtin; refine wpList_append_fits _ rfl _ _ 52 rfl 0 43 j0 3 Trym.underlying52 hj hw1 wo.heap.size j n' ys rfl (hown.alloc _) ⟨w5.heap.size, 0, none⟩ 1 1 [.int .i64 m.off, .slice r1 m1 d1, .slice r2 m2 d2] rfl rfl (new_cells3 _ _ _ _ _) (one3 _ _ _ _ _ _ _) (by omega) ?_)
          intro w6 hown6 hgrow6
          have HM6 : Hid (InRow w w6 wo.heap.size (j + 1) n' (some ⟨b2, o2, none⟩)) := InRow.snoc (by simpa using hown.1) HY.out hown6 KK.out.1 KK.out.2.1 KK.out.2.2
          have HB6 : Hid (Below wo.heap.size wo w6) := (HB5.out.alloc (by omega) _).grown hgrow6 (by simp; omega) (by intro k hk; cases hk; exact Nat.le_refl _)
          clear hown6 hgrow6 hown HY
          go_wp2
          go_roundw
          case rel => exact ⟨j + 1, by omega, by go_num, rfl, HM6, HB6⟩
          case measure => simp [intOf]; omega
        · have hjn : j = n' := by omega
          subst hjn
          have HC : Hid (CopyMs w wi w.heap.size ms (.slice (some ⟨wo.heap.size, 0, none⟩) j j)) := HMi.out.copy HG.out HMs.out
          have HR2 : Hid (OutRow w wi w.heap.size k n ws) := HR.out.below HBi.out
          clear HMi HBi
          go_wp2_with fail
          refine (newRoute _ _ _ _ _).mono ?_
          rintro e w5 ⟨rfl, hb5⟩
          have HC5 : Hid (CopyMs w w5 w.heap.size ms (.slice (some ⟨wo.heap.size, 0, none⟩) j j)) := HC.out.grown (grown_of_below hb5 _)
          have HR5 := HR2.out.below hb5
          have HB5 : Hid (Below w.heap.size w w5) := HBw.out.trans (hb5.mono HBw.out.size)
          obtain ⟨xs, hown, HXr⟩ := HR5
          have HX : Hid (∀ i r, i < k → ws[i]? = some r → ∃ v, xs[i * 2]? = some (.int .i64 r.1) ∧ xs[i * 2 + 1]? = some v ∧ CopyMs w w5 w.heap.size r.2 v) := HXr
          clear HXr hb5 HC HR2 g0 g1
          go_wp2_with (at_builtin; refine wpList_append_fits _ rfl _ _ 39 rfl 0 54 i0 2 Trym.underlying39 hi hz1 w.heap.size k n xs rfl (hown.alloc _) ⟨w5.heap.size, 0, none⟩ 1 1 [.int .i64 s, .slice (some ⟨wo.heap.size, 0, none⟩) j j] rfl rfl (new_cells2 _ _ _ _) (one2 _ _ _ _) (by omega) ?_)
          intro w6 hown6 hgrow6
          have hlow : w.heap.size < w5.heap.size := own_lt hown
          have HG6 : w5.grownBy w6 (some w.heap.size) := ⟨hgrow6.os, hgrow6.tape, hgrow6.output, Nat.le_trans (by simp) hgrow6.size, fun q hq hne => (hgrow6.block q (by simp; omega) hne).trans (Below.heap_alloc _ _ _ hq)⟩
          have HR6 : Hid (OutRow w w6 w.heap.size (k + 1) n ws) := OutRow.snoc (by simpa using hown.1) HS.out HX.out HC5.out hown6 HG6
          have HB6 : Hid (Below w.heap.size w w6) := HB5.out.grown HG6 (by omega) (by intro q hq; cases hq; exact Nat.le_refl _)
          clear hown6 hgrow6 hown HX HG6
          go_wp2
          go_roundw
          case rel => exact ⟨k + 1, by omega, by go_num, rfl, HR6, HB6⟩
          case measure => simp [intOf]; omega
    · have hkn : k = n := by omega
      subst hkn
      go_wp2
      go_ret
      exact ⟨rfl, HR.out.at HW.out.1 HB.out, HB.out⟩

end Go.Proofs.Qxb6000440aMods
