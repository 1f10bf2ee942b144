/-
  fieldsAt: the walk.
-/
import Derived.Test.Qxb6000440aModsSmall
import Derived.Test.Qxb6000440aModsToWalk
namespace Go.Proofs.Qxb6000440aMods
open Go.RowKit

/-- The two masks that fieldsAt gathers: two rows of the call's own. -/
def TwoRows (B : Nat) (wr : World) (p5 p6 : Option Addr) (n c5 c6 : Nat) (sh ak : List Int) : Prop :=
  wr.ownsRow B 5 1 (.slice p5 n c5) n (sh.map (Value.int .u8)) ∧ wr.ownsRow B 5 1 (.slice p6 n c6) n (ak.map (Value.int .u8)) ∧ (∀ a a', p5 = some a → p6 = some a' → a.block ≠ a'.block) ∧ Rng sh ∧ Rng ak

theorem TwoRows.below {B : Nat} {wr wr' : World} {p5 p6 : Option Addr} {n c5 c6 : Nat} {sh ak : List Int} (h : TwoRows B wr p5 p6 n c5 c6 sh ak) (hb : Below wr.heap.size wr wr') : TwoRows B wr' p5 p6 n c5 c6 sh ak :=
  ⟨own_below h.1 hb, own_below h.2.1 hb, h.2.2⟩

theorem own_step' {wr : World} {B n c j : Nat} {p : Option Addr} {zs : List Int} (hj : j < n) (h : wr.ownsRow B 5 1 (.slice p n c) n (zs.map (Value.int .u8))) :
    ∃ g, p = some ⟨g, 0, none⟩ ∧ B ≤ g ∧ g < wr.heap.size ∧ wr.cell? ⟨g, j, none⟩ = some (.int .u8 (zs.getD j 0)) ∧ wr.frozen? ⟨g, j, none⟩ = false ∧
    ∀ y : Int, (wr.setCell ⟨g, j, none⟩ (.int .u8 y)).ownsRow B 5 1 (.slice p n c) n ((zs.set j y).map (Value.int .u8)) ∧ wr.grownBy (wr.setCell ⟨g, j, none⟩ (.int .u8 y)) (some g) := by
  obtain ⟨g, rfl, hg, hc, hf, hs⟩ := own_step hj h
  exact ⟨g, rfl, hg, own_lt h, hc, hf, fun y => ⟨hs y, (h.stored j (.int .u8 y)).2⟩⟩

theorem TwoRows.step5 {B : Nat} {wr : World} {p5 p6 : Option Addr} {n c5 c6 j : Nat} {sh ak : List Int} (h : TwoRows B wr p5 p6 n c5 c6 sh ak) (hj : j < n) :
    ∃ g, p5 = some ⟨g, 0, none⟩ ∧ B ≤ g ∧ g < wr.heap.size ∧ wr.cell? ⟨g, j, none⟩ = some (.int .u8 (sh.getD j 0)) ∧ wr.frozen? ⟨g, j, none⟩ = false ∧
    ∀ y : Int, (0 ≤ y ∧ y ≤ 255) → TwoRows B (wr.setCell ⟨g, j, none⟩ (.int .u8 y)) p5 p6 n c5 c6 (sh.set j y) ak := by
  obtain ⟨h1, h2, h3, h4, h5⟩ := h
  obtain ⟨g, hp, hg, hlt, hc, hf, hs⟩ := own_step' hj h1
  refine ⟨g, hp, hg, hlt, hc, hf, fun y hy => ⟨(hs y).1, h2.kept (hs y).2 ?_, h3, fun x hx => ?_, h5⟩⟩
  · cases p6 with
    | none => exact .inl rfl
    | some a => exact .inr (by simp [Value.ownBlock]; exact fun e => h3 _ _ hp rfl e.symm)
  · rcases List.mem_or_eq_of_mem_set hx with h | h
    · exact h4 x h
    · rw [h]; exact hy

theorem TwoRows.step6 {B : Nat} {wr : World} {p5 p6 : Option Addr} {n c5 c6 j : Nat} {sh ak : List Int} (h : TwoRows B wr p5 p6 n c5 c6 sh ak) (hj : j < n) :
    ∃ g, p6 = some ⟨g, 0, none⟩ ∧ B ≤ g ∧ g < wr.heap.size ∧ wr.cell? ⟨g, j, none⟩ = some (.int .u8 (ak.getD j 0)) ∧ wr.frozen? ⟨g, j, none⟩ = false ∧
    ∀ y : Int, (0 ≤ y ∧ y ≤ 255) → TwoRows B (wr.setCell ⟨g, j, none⟩ (.int .u8 y)) p5 p6 n c5 c6 sh (ak.set j y) := by
  obtain ⟨h1, h2, h3, h4, h5⟩ := h
  obtain ⟨g, hp, hg, hlt, hc, hf, hs⟩ := own_step' hj h2
  refine ⟨g, hp, hg, hlt, hc, hf, fun y hy => ⟨h1.kept (hs y).2 ?_, (hs y).1, h3, h4, fun x hx => ?_⟩⟩
  · cases p5 with
    | none => exact .inl rfl
    | some a => exact .inr (by simp [Value.ownBlock]; exact fun e => h3 _ _ rfl hp e)
  · rcases List.mem_or_eq_of_mem_set hx with h | h
    · exact h5 x h
    · rw [h]; exact hy

/-- Both rows at one place. -/
theorem TwoRows.step {B : Nat} {wr : World} {p5 p6 : Option Addr} {n c5 c6 j : Nat} {sh ak : List Int} (h : TwoRows B wr p5 p6 n c5 c6 sh ak) (hj : j < n) :
    ∃ g g', p5 = some ⟨g, 0, none⟩ ∧ p6 = some ⟨g', 0, none⟩ ∧ (B ≤ g ∧ B ≤ g' ∧ g < wr.heap.size ∧ g' < wr.heap.size ∧ g ≠ g') ∧
      (wr.cell? ⟨g, j, none⟩ = some (.int .u8 (sh.getD j 0)) ∧ wr.frozen? ⟨g, j, none⟩ = false) ∧ (wr.cell? ⟨g', j, none⟩ = some (.int .u8 (ak.getD j 0)) ∧ wr.frozen? ⟨g', j, none⟩ = false) ∧
      ∀ y z : Int, (0 ≤ y ∧ y ≤ 255) → (0 ≤ z ∧ z ≤ 255) → TwoRows B ((wr.setCell ⟨g, j, none⟩ (.int .u8 y)).setCell ⟨g', j, none⟩ (.int .u8 z)) p5 p6 n c5 c6 (sh.set j y) (ak.set j z) := by
  obtain ⟨g, hp, hg, hlt, hc, hf, hs⟩ := h.step5 hj
  obtain ⟨g', hp', hg', hlt', hc', hf', _⟩ := h.step6 hj
  refine ⟨g, g', hp, hp', ⟨hg, hg', hlt, hlt', fun e => h.2.2.1 _ _ hp hp' e⟩, ⟨hc, hf⟩, ⟨hc', hf'⟩, fun y z hy hz => ?_⟩
  obtain ⟨g2, hp2, _, _, _, _, hs2⟩ := (hs y hy).step6 hj
  rw [hp'] at hp2
  simp only [Option.some.injEq, Addr.mk.injEq, and_true] at hp2
  subst hp2
  exact hs2 z hz

theorem own_mono {w : World} {base base' : Nat} {e : TypeId} {size n : Nat} {v : Value} {xs : List Value} (h : w.ownsRow base' e size v n xs) (hb : base ≤ base') : w.ownsRow base e size v n xs := by
  obtain ⟨h1, h2⟩ := h
  refine ⟨h1, ?_⟩
  rcases h2 with h2 | ⟨g, cap, cur, hv, hg, r⟩
  · exact Or.inl h2
  · exact Or.inr ⟨g, cap, cur, hv, Nat.le_trans hb hg, r⟩

theorem TwoRows.start {B : Nat} {w1 w2 : World} {p5 p6 : Option Addr} {n c5 c6 : Nat} {xs : List Int} (B1 : B ≤ w1.heap.size) (h1 : w1.ownsRow B 5 1 (.slice p5 n c5) n (xs.map (Value.int .u8))) (hb : Below w1.heap.size w1 w2)
    (h2 : w2.ownsRow w1.heap.size 5 1 (.slice p6 n c6) n (xs.map (Value.int .u8))) (hr : Rng xs) : TwoRows B w2 p5 p6 n c5 c6 xs xs := by
  refine ⟨own_below h1 hb, own_mono h2 B1, fun a a' ha ha' => ?_, hr, hr⟩
  subst ha ha'
  have l1 := (h1.lt a.block rfl).2
  have l2 := (h2.lt a'.block rfl).1
  omega

/-- The box of m, as it lies in a later world. -/
def BoxB (w : World) (v0 v1 v2 : Value) (wr : World) : Prop :=
  (wr.cell? ⟨w.heap.size, 0, none⟩ = some v0 ∧ wr.cell? ⟨w.heap.size, 1, none⟩ = some v1 ∧ wr.cell? ⟨w.heap.size, 2, none⟩ = some v2) ∧ w.heap.size < wr.heap.size ∧ Below w.heap.size w wr

theorem BoxB.start (w : World) (v0 v1 v2 : Value) (t : TypeId) : BoxB w v0 v1 v2 (w.alloc (.cells #[v0, v1, v2] t)) :=
  ⟨⟨by simp, by simp, by simp⟩, by simp, (Below.refl _ _).alloc (Nat.le_refl _) _⟩
theorem BoxB.drew {w : World} {v0 v1 v2 : Value} {wr : World} (h : BoxB w v0 v1 v2 wr) : BoxB w v0 v1 v2 wr.drew := ⟨h.1, h.2.1, h.2.2.drew⟩
theorem BoxB.below {w : World} {v0 v1 v2 : Value} {wr wr' : World} (h : BoxB w v0 v1 v2 wr) (hb : Below wr.heap.size wr wr') : BoxB w v0 v1 v2 wr' :=
  ⟨⟨cell_later hb h.1.1, cell_later hb h.1.2.1, cell_later hb h.1.2.2⟩, Nat.lt_of_lt_of_le h.2.1 hb.size, h.2.2.trans (hb.mono h.2.2.size)⟩
theorem BoxB.alloc {w : World} {v0 v1 v2 : Value} {wr : World} (h : BoxB w v0 v1 v2 wr) (o : Obj) : BoxB w v0 v1 v2 (wr.alloc o) := h.below ((Below.refl _ _).alloc (Nat.le_refl _) _)
theorem BoxB.setCell {w : World} {v0 v1 v2 : Value} {wr : World} (h : BoxB w v0 v1 v2 wr) {a : Addr} (ha : w.heap.size < a.block) (u : Value) : BoxB w v0 v1 v2 (wr.setCell a u) := by
  have f : ∀ k, (wr.setCell a u).cell? ⟨w.heap.size, k, none⟩ = wr.cell? ⟨w.heap.size, k, none⟩ := fun k => World.cell?_of_block (w := wr) (Below.heap_setCell wr a u w.heap.size (by omega))
  exact ⟨⟨by rw [f]; exact h.1.1, by rw [f]; exact h.1.2.1, by rw [f]; exact h.1.2.2⟩, by simpa [World.setCell] using h.2.1, h.2.2.setCell (by omega) u⟩

theorem cell_far {w : World} {b o : Nat} {v u : Value} {a : Addr} (h : w.cell? ⟨b, o, none⟩ = some v) (hne : b ≠ a.block) : (w.setCell a u).cell? ⟨b, o, none⟩ = some v := by
  rw [World.cell?_of_block (w := w) (Below.heap_setCell w a u b hne)]
  exact h

theorem own_bsl {w : World} {B n c : Nat} {p : Option Addr} {xs : List Int} (h : w.ownsRow B 5 1 (.slice p n c) n (xs.map (Value.int .u8))) (hr : Rng xs) : BSl w p n c xs := by
  have hl : xs.length = n := by simpa using h.1
  refine ⟨hl.symm, BIn.own h hr, fun hp => ?_⟩
  rcases h.2 with ⟨hv, _⟩ | ⟨g, cap, cur, hv, _⟩
  · simp only [Value.slice.injEq] at hv; exact hv.2.2
  · simp only [Value.slice.injEq] at hv; rw [hp] at hv; cases hv.1

/-- A slice of fields, as it lies in a world. -/
def FldAt (w : World) (p : Option Addr) (n : Nat) (fs : List (Int × List Int)) : Prop :=
  n = fs.length ∧ ∀ i f, fs[i]? = some f → ∃ b o p' n' c', p = some ⟨b, o, none⟩ ∧ (w.cell? ⟨b, o + i * 2, none⟩ = some (.int .i64 f.1) ∧ w.cell? ⟨b, o + i * 2 + 1, none⟩ = some (.slice p' n' c')) ∧ BSl w p' n' c' f.2

theorem FldAt.below {w w' : World} {p : Option Addr} {n : Nat} {fs : List (Int × List Int)} (h : FldAt w p n fs) (hb : Below w.heap.size w w') : FldAt w' p n fs :=
  ⟨h.1, fun i f hf => by
    obtain ⟨b, o, p', n', c', hp, ⟨h0, h1⟩, k⟩ := h.2 i f hf
    exact ⟨b, o, p', n', c', hp, ⟨cell_later hb h0, cell_later hb h1⟩, k.below hb⟩⟩

theorem fieldsOf_one {off : Int} {msk : List Int} {n : Nat} {ws : List (Int × List Mt)} (hn : n = msk.length) {sh' : List Int} (hs : sh' = if allB 0 (joinL andB msk (selW off n ws)) = true then msk else joinL andB msk (selW off n ws)) (he : joinL orB msk (selW off n ws) = sh') : fieldsOf off msk ws = [(off, sh')] := by
  subst hn
  simp only [fieldsOf]
  rw [← hs, if_pos he]
theorem fieldsOf_two {off : Int} {msk : List Int} {n : Nat} {ws : List (Int × List Mt)} (hn : n = msk.length) {sh' : List Int} (hs : sh' = if allB 0 (joinL andB msk (selW off n ws)) = true then msk else joinL andB msk (selW off n ws)) (he : ¬ joinL orB msk (selW off n ws) = sh') : fieldsOf off msk ws = [(off, sh'), (off, joinL orB msk (selW off n ws))] := by
  subst hn
  simp only [fieldsOf]
  rw [← hs, if_neg he]

theorem FldAt.one {w : World} {off : Int} {p : Option Addr} {n c : Nat} {xs : List Int} {t : TypeId} (h : BSl w p n c xs) : FldAt (w.alloc (.cells #[.int .i64 off, .slice p n c] t)) (some ⟨w.heap.size, 0, none⟩) 1 [(off, xs)] := by
  refine ⟨rfl, fun i f hf => ?_⟩
  match i, hf with
  | 0, hf =>
    simp at hf
    subst hf
    exact ⟨w.heap.size, 0, p, n, c, rfl, ⟨by simp, by simp⟩, h.below ((Below.refl _ _).alloc (Nat.le_refl _) _)⟩

theorem FldAt.two {w : World} {B : Nat} {off : Int} {p q p5 : Option Addr} {n c m d c5 : Nat} {xs ys : List Int} (hown : w.ownsRow B 47 2 (.slice p5 2 c5) 2 [.int .i64 off, .slice p n c, .int .i64 off, .slice q m d]) (h1 : BSl w p n c xs) (h2 : BSl w q m d ys) : FldAt w p5 2 [(off, xs), (off, ys)] := by
  rcases hown.2 with ⟨_, h⟩ | ⟨g, cap, cur, hv, _⟩
  · omega
  · simp only [Value.slice.injEq, true_and] at hv
    obtain ⟨rfl, rfl⟩ := hv
    refine ⟨rfl, fun i f hf => ?_⟩
    match i, hf with
    | 0, hf =>
      simp at hf
      subst hf
      exact ⟨g, 0, p, n, c, rfl, ⟨by rw [hown.cellAt _ (by omega)]; rfl, by rw [hown.cellAt _ (by omega)]; rfl⟩, h1⟩
    | 1, hf =>
      simp at hf
      subst hf
      exact ⟨g, 0, q, m, d, rfl, ⟨by rw [hown.cellAt _ (by omega)]; rfl, by rw [hown.cellAt _ (by omega)]; rfl⟩, h2⟩

theorem Trym.info47 : (Trym.prog.info? 47).map (fun i => (i.zero, i.size, i.bytes)) = some (some (.agg #[.int .i64 0, .slice none 0 0]), 2, 32) := by kernel_rfl

theorem new_cells2' (W : World) (k : Nat) (hk : W.heap.size = k) (v0 v1 : Value) (t : TypeId) : ∀ j u, [v0, v1][j]? = some u → (W.alloc (.cells #[v0, v1] t)).cell? ((⟨k, 0, none⟩ : Addr).add j) = some u := by
  subst hk; exact new_cells2 W v0 v1 t

/-- What fieldsAt leaves. -/
def FEnds (w : World) (off : Int) (msk : List Int) (ws : List (Int × List Mt)) (e : Ending) (w' : World) : Prop :=
  ∃ p' c', e = .returned (.slice p' (fieldsOf off msk ws).length c') ∧ FldAt w' p' (fieldsOf off msk ws).length (fieldsOf off msk ws) ∧ Below w.heap.size w w'

/-- What fieldsAt has gathered. -/
def Gath (w wr : World) (v0 v1 v2 : Value) (p5 p6 : Option Addr) (n c5 c6 : Nat) (msk : List Int) (l : List (List Int)) : Prop :=
  TwoRows (w.heap.size + 1) wr p5 p6 n c5 c6 (joinL andB msk l) (joinL orB msk l) ∧ BoxB w v0 v1 v2 wr

set_option maxHeartbeats 4000000 in
set_option maxRecDepth 100000 in
theorem fieldsAt39 (p : Option Addr) (n c : Nat) (ws : List (Int × List Mt)) (off : Int) (p1 p2 : Option Addr) (n1 c1 n2 c2 : Nat) (msk : List Int) (w : World) (hn : n ≤ 1048577) (hn2 : n2 ≤ 1048576) (HOK : Hid (RtOk ws)) (HW : Hid (WsAt 0 w p n ws)) (HM : Hid (BSl w p2 n2 c2 msk)) :
    Calls Trym.prog 39 #[.slice p n c, .agg #[.int .i64 off, .slice p1 n1 c1, .slice p2 n2 c2]] w fun e w' => FEnds w off msk ws e w' := by
  go_enter Trym.func39, Trym.ntmps39
  go_wp2
  have HB0 : Hid (BoxB w _ _ _ _) := (BoxB.start w (.int .i64 off) (.slice p1 n1 c1) (.slice p2 n2 c2) 43).drew
  go_region_held3 (fun w' => w'.cell? ⟨w.heap.size, 2, none⟩ = some (.slice p2 n2 c2)) (go_keep)
    (first | (go_at_call 41; refine (bclone w _ _ _ _ _ hn2 HM HB1.out.2.2).mono ?_; rintro e w2 ⟨p6, c6, rfl, HR6, hb2⟩; have HB2 : Hid (BoxB w _ _ _ w2) := HB1.out.below hb2; have HT : Hid (TwoRows (w.heap.size + 1) w2 p5 p6 n2 c5 c6 msk msk) := TwoRows.start HB1.out.2.1 HR5.out hb2 HR6.out HM.out.2.1.2.1; have x2' := HB2.out.1.2.2; clear hb2) | (go_at_call 41; refine (bclone w _ _ _ _ _ hn2 HM HB0.out.2.2).mono ?_; rintro e w1 ⟨p5, c5, rfl, HR5', hb1⟩; have HB1 : Hid (BoxB w _ _ _ w1) := HB0.out.below hb1; have HR5 : Hid (w1.ownsRow (w.heap.size + 1) 5 1 (.slice p5 n2 c5) n2 (msk.map (Value.int .u8))) := own_mono HR5'.out (by simp); have x2 := HB1.out.1.2.2; clear hb1 HR5'))
  have HG2 : Hid (Gath w w2 (.int .i64 off) (.slice p1 n1 c1) (.slice p2 n2 c2) p5 p6 n2 c5 c6 msk (selW off n2 (ws.take 0))) := ⟨HT.out, HB2.out⟩
  clear HT HB2 HR6 HR5 HB1 HB0 x2 x2'
  go_wp2
  go_loopw [21] (fun i wr => ∃ k : Nat, k ≤ n ∧ i = .int .i64 k ∧ Hid (Gath w wr (.int .i64 off) (.slice p1 n1 c1) (.slice p2 n2 c2) p5 p6 n2 c5 c6 msk (selW off n2 (ws.take k)))) (fun i _ => n - (intOf i).toNat)
  case atStart => exact ⟨0, Nat.zero_le _, rfl, HG2⟩
  case round =>
    rename World => wo
    obtain ⟨k, hk, rfl, HG⟩ := hrel
    clear HG2
    by_cases hlt : k < n
    · obtain ⟨s, ms, b, o, p', n', c', HS, rfl, G0, G1, HMs⟩ := HW.out.get hlt
      have hn' : n' ≤ 1048576 := by rw [HMs.out.1]; exact HOK.out (s, ms) (List.mem_of_getElem? HS.out)
      have g0 := cell_later HG.out.2.2.2 G0
      have g1 := cell_later HG.out.2.2.2 G1
      have HG1 : Hid (Gath w (wo.alloc (.cells #[.int .i64 s, .slice p' n' c'] 54)) (.int .i64 off) (.slice p1 n1 c1) (.slice p2 n2 c2) p5 p6 n2 c5 c6 msk (selW off n2 (ws.take k) ++ selM off n2 (ms.take 0))) := by
        have e : selW off n2 (ws.take k) ++ selM off n2 (ms.take 0) = selW off n2 (ws.take k) := by simp [selM]
        rw [e]
        exact ⟨HG.out.1.below ((Below.refl _ _).alloc (Nat.le_refl _) _), HG.out.2.alloc _⟩
      clear G0 G1
      go_wp2
      go_loopw [28] (fun i wi => ∃ j : Nat, j ≤ n' ∧ i = .int .i64 j ∧ Hid (Gath w wi (.int .i64 off) (.slice p1 n1 c1) (.slice p2 n2 c2) p5 p6 n2 c5 c6 msk (selW off n2 (ws.take k) ++ selM off n2 (ms.take j)))) (fun i _ => n' - (intOf i).toNat)
      case atStart => exact ⟨0, Nat.zero_le _, rfl, HG1⟩
      case round =>
        rename World => wi
        obtain ⟨j, hj, rfl, HGi⟩ := hrel
        clear HG1
        by_cases hlt2 : j < n'
        · obtain ⟨m, b2, o2, r1, m1, d1, r2, m2, d2, HMj, rfl, K0, K1, K2, HV, HK⟩ := HMs.out.get hlt2
          obtain ⟨x, hx⟩ : ∃ x, x = m.off := ⟨_, rfl⟩
          rw [← hx] at K0
          have HX : Hid (x = m.off) := hx
          clear hx
          have k0 := cell_later HGi.out.2.2.2 K0
          have k1 := cell_later HGi.out.2.2.2 K1
          have k2 := cell_later HGi.out.2.2.2 K2
          clear K0 K1 K2
          have y0 := HGi.out.2.1.1
          have y2 := HGi.out.2.1.2.2
          have yl := HGi.out.2.2.1
          by_cases hoff : x = off
          · subst hoff
            by_cases hlen : m2 = n2
            · subst hlen
              have hml : m.msk.length = m2 := HK.out.1.1.symm
              have hsl : (joinL andB msk (selW x m2 (ws.take k) ++ selM x m2 (ms.take j))).length = m2 ∧ (joinL orB msk (selW x m2 (ws.take k) ++ selM x m2 (ms.take j))).length = m2 :=
                ⟨by simpa using HGi.out.1.1.1, by simpa using HGi.out.1.2.1.1⟩
              obtain ⟨SH, hSH⟩ : ∃ l, l = joinL andB msk (selW x m2 (ws.take k) ++ selM x m2 (ms.take j)) := ⟨_, rfl⟩
              obtain ⟨AK, hAK⟩ : ∃ l, l = joinL orB msk (selW x m2 (ws.take k) ++ selM x m2 (ms.take j)) := ⟨_, rfl⟩
              rw [← hSH, ← hAK] at hsl
              have HL : Hid ((SH.length = m2 ∧ AK.length = m2) ∧ m.msk.length = m2) := ⟨hsl, hml⟩
              have HTi : Hid (TwoRows (w.heap.size + 1) wi p5 p6 m2 c5 c6 SH AK) := by rw [hSH, hAK]; exact HGi.out.1
              have HBi : Hid (BoxB w (.int .i64 x) (.slice p1 n1 c1) (.slice p2 m2 c2) wi) := HGi.out.2
              have HE : Hid (SH = joinL andB msk (selW x m2 (ws.take k) ++ selM x m2 (ms.take j)) ∧ AK = joinL orB msk (selW x m2 (ws.take k) ++ selM x m2 (ms.take j))) := ⟨hSH, hAK⟩
              have HA0 : Hid (TwoRows (w.heap.size + 1) (wi.alloc (.cells #[.int .i64 x, .slice r1 m1 d1, .slice r2 m2 d2] 43)) p5 p6 m2 c5 c6 (mixL andB SH m.msk 0) (mixL orB AK m.msk 0)) := by
                rw [mixL_zero, mixL_zero]
                exact HTi.out.below ((Below.refl _ _).alloc (Nat.le_refl _) _)
              have HA1 : Hid (BoxB w (.int .i64 x) (.slice p1 n1 c1) (.slice p2 m2 c2) (wi.alloc (.cells #[.int .i64 x, .slice r1 m1 d1, .slice r2 m2 d2] 43))) := HBi.out.alloc _
              clear hsl hml hSH hAK HGi
              go_wp2
              go_loopw [11, 48] (fun _ i wj => ∃ t : Nat, t ≤ m2 ∧ i = .int .i64 t ∧ Hid (TwoRows (w.heap.size + 1) wj p5 p6 m2 c5 c6 (mixL andB SH m.msk t) (mixL orB AK m.msk t)) ∧ Hid (BoxB w (.int .i64 x) (.slice p1 n1 c1) (.slice p2 m2 c2) wj) ∧ wj.cell? ⟨wi.heap.size, 2, none⟩ = some (.slice r2 m2 d2)) (fun _ i _ => m2 - (intOf i).toNat)
              case atStart => exact ⟨0, Nat.zero_le _, rfl, HA0, HA1, by simp⟩
              case round =>
                rename World => wj
                obtain ⟨t, ht, rfl, HTj, HBj, hO⟩ := hrel
                clear HA0 HA1 k0 k1 k2 y0 y2 yl g0 g1
                by_cases hlt3 : t < m2
                · obtain ⟨g, g', rfl, rfl, ⟨l1, l2, l3, l4, l5⟩, _, _, _⟩ := HTi.out.step hlt3
                  obtain ⟨q, q', e1, e2, _, ⟨a5, f5⟩, ⟨a6, f6⟩, HSt⟩ := HTj.out.step hlt3
                  simp only [Option.some.injEq, Addr.mk.injEq, and_true] at e1 e2
                  subst e1 e2
                  obtain ⟨b3, o3, y, rfl, Y0, hy0, hy1, HY⟩ := HK.out.1.2.1.get HK.out.1.1 hlt3
                  have hb3 : b3 < w.heap.size := World.block_lt_of_cell? w _ Y0
                  have z0 := cell_later HBj.out.2.2 Y0
                  rw [mixL_get andB SH m.msk t (by rw [HL.out.1.1]; exact hlt3) (by rw [HL.out.2]; exact hlt3)] at a5
                  rw [mixL_get orB AK m.msk t (by rw [HL.out.1.2]; exact hlt3) (by rw [HL.out.2]; exact hlt3)] at a6
                  obtain ⟨u, hu⟩ : ∃ u, u = SH.getD t 0 := ⟨_, rfl⟩
                  obtain ⟨v, hv⟩ : ∃ v, v = AK.getD t 0 := ⟨_, rfl⟩
                  rw [← hu] at a5
                  rw [← hv] at a6
                  have ru : 0 ≤ u ∧ u ≤ 255 := by rw [hu]; exact getD_range HTi.out.2.2.2.1 t
                  have rv : 0 ≤ v ∧ v ≤ 255 := by rw [hv]; exact getD_range HTi.out.2.2.2.2 t
                  have HS3 : Hid (TwoRows (w.heap.size + 1) ((wj.setCell ⟨g, t, none⟩ (.int .u8 (andB u y))).setCell ⟨g', t, none⟩ (.int .u8 (orB v y))) (some ⟨g, 0, none⟩) (some ⟨g', 0, none⟩) m2 c5 c6 (mixL andB SH m.msk (t + 1)) (mixL orB AK m.msk (t + 1))) := by
                    have := HSt (andB u y) (orB v y) (andB_rng ru) (orB_rng rv ⟨hy0, hy1⟩)
                    rw [hu, hv, HY.out, mixL_set andB SH m.msk t (by rw [HL.out.1.1]; exact hlt3) (by rw [HL.out.2]; exact hlt3), mixL_set orB AK m.msk t (by rw [HL.out.1.2]; exact hlt3) (by rw [HL.out.2]; exact hlt3), ← HY.out, ← hu, ← hv] at this
                    exact this
                  have HB3 : Hid (BoxB w (.int .i64 x) (.slice p1 n1 c1) (.slice p2 m2 c2) ((wj.setCell ⟨g, t, none⟩ (.int .u8 (andB u y))).setCell ⟨g', t, none⟩ (.int .u8 (orB v y)))) :=
                    (HBj.out.setCell (by simp; omega) _).setCell (by simp; omega) _
                  have band : bits .and .u8 u y = andB u y := u8_and u y ru.1 (by omega) hy0 (by omega)
                  have bor : bits .or .u8 v y = orB v y := u8_or v y rv.1 (by omega) hy0 (by omega)
                  have n1' : ¬ g = g' := l5
                  have n2' : ¬ g' = g := fun e => l5 e.symm
                  have n3 : ¬ wi.heap.size = g := by omega
                  have n4 : ¬ wi.heap.size = g' := by omega
                  have n5 : ¬ b3 = g := by omega
                  have n6 : ¬ b3 = g' := by omega
                  clear HSt hu hv l5
                  go_wp2
                  go_region
                  go_wp2
                  go_region
                  go_wp2
                  go_roundw
                  case rel => exact ⟨t + 1, by omega, by go_num, HS3.out, HB3.out.drew.drew, cell_far (cell_far hO n3) n4⟩
                  case measure => simp [intOf]; omega
                · have HG3 : Hid (Gath w wj (.int .i64 x) (.slice p1 n1 c1) (.slice p2 m2 c2) p5 p6 m2 c5 c6 msk (selW x m2 (ws.take k) ++ selM x m2 (ms.take (j + 1)))) := by
                    have h := HTj.out
                    rw [mixL_all andB SH m.msk t (by rw [HL.out.1.1]; omega) (by rw [HL.out.2]; omega), mixL_all orB AK m.msk t (by rw [HL.out.1.2]; omega) (by rw [HL.out.2]; omega), HE.out.1, HE.out.2] at h
                    rw [selM_snoc_in HMj.out ⟨HX.out.symm, HL.out.2⟩, ← List.append_assoc]
                    refine ⟨?_, HBj.out⟩
                    rw [joinL_append andB, joinL_append orB]
                    exact h
                  go_wp2
                  go_roundw
                  case rel => exact ⟨j + 1, by omega, by go_num, HG3⟩
                  case measure => simp [intOf]; omega
            · have HG3 : Hid (Gath w (wi.alloc (.cells #[.int .i64 x, .slice r1 m1 d1, .slice r2 m2 d2] 43)) (.int .i64 x) (.slice p1 n1 c1) (.slice p2 n2 c2) p5 p6 n2 c5 c6 msk (selW x n2 (ws.take k) ++ selM x n2 (ms.take (j + 1)))) := by
                rw [selM_snoc_out HMj.out (fun h => hlen (by rw [HK.out.1.1]; exact h.2))]
                exact ⟨HGi.out.1.below ((Below.refl _ _).alloc (Nat.le_refl _) _), HGi.out.2.alloc _⟩
              go_wp2
              go_roundw
              case rel => exact ⟨j + 1, by omega, by go_num, HG3⟩
              case measure => simp [intOf]; omega
          · have HG3 : Hid (Gath w (wi.alloc (.cells #[.int .i64 x, .slice r1 m1 d1, .slice r2 m2 d2] 43)) (.int .i64 off) (.slice p1 n1 c1) (.slice p2 n2 c2) p5 p6 n2 c5 c6 msk (selW off n2 (ws.take k) ++ selM off n2 (ms.take (j + 1)))) := by
              rw [selM_snoc_out HMj.out (fun h => hoff (by rw [HX.out]; exact h.1))]
              exact ⟨HGi.out.1.below ((Below.refl _ _).alloc (Nat.le_refl _) _), HGi.out.2.alloc _⟩
            go_wp2
            go_roundw
            case rel => exact ⟨j + 1, by omega, by go_num, HG3⟩
            case measure => simp [intOf]; omega
        · have HG3 : Hid (Gath w wi (.int .i64 off) (.slice p1 n1 c1) (.slice p2 n2 c2) p5 p6 n2 c5 c6 msk (selW off n2 (ws.take (k + 1)))) := by
            rw [selW_snoc HS.out]
            have := HGi.out
            rwa [List.take_of_length_le (l := ms) (by rw [← HMs.out.1]; omega)] at this
          go_wp2
          go_roundw
          case rel => exact ⟨k + 1, by omega, by go_num, HG3⟩
          case measure => simp [intOf]; omega
    · have HG3 := HG.out
      rw [List.take_of_length_le (by rw [← HW.out.1]; omega)] at HG3
      have HGE : Hid (Gath w wo (.int .i64 off) (.slice p1 n1 c1) (.slice p2 n2 c2) p5 p6 n2 c5 c6 msk (selW off n2 ws)) := HG3
      clear HG3
      obtain ⟨SH, hSH⟩ : ∃ l, l = joinL andB msk (selW off n2 ws) := ⟨_, rfl⟩
      obtain ⟨AK, hAK⟩ : ∃ l, l = joinL orB msk (selW off n2 ws) := ⟨_, rfl⟩
      have HE : Hid (SH = joinL andB msk (selW off n2 ws) ∧ AK = joinL orB msk (selW off n2 ws)) := ⟨hSH, hAK⟩
      have HSHs : Hid (BSl wo p5 n2 c5 SH) := by rw [hSH]; exact own_bsl HGE.out.1.1 HGE.out.1.2.2.2.1
      have HAKs : Hid (BSl wo p6 n2 c6 AK) := by rw [hAK]; exact own_bsl HGE.out.1.2.1 HGE.out.1.2.2.2.2
      have y0 := HGE.out.2.1.1
      have y2 := HGE.out.2.1.2.2
      have yl := HGE.out.2.2.1
      clear hSH hAK HG
      go_wp2_with fail
      refine (setsBits42 _ _ _ SH _ HSHs.out.1 hn2 HSHs.out.2.1).mono ?_
      rintro e w' ⟨rfl, hw'⟩
      have hw'' := hw'.symm
      subst hw''
      cases hal : allB 0 SH
      · have HAL : Hid (allB 0 (joinL andB msk (selW off n2 ws)) = false) := by rw [← HE.out.1]; exact hal
        clear hal
        have HS5 : Hid (SH = if allB 0 (joinL andB msk (selW off n2 ws)) = true then msk else joinL andB msk (selW off n2 ws)) := by rw [HAL.out, HE.out.1]; rfl
        have HBS : Hid (BSl wo p5 n2 c5 SH) := HSHs
        have HBA : Hid (Below wo.heap.size wo (wo.alloc (.cells #[.int .i64 off, .slice p5 n2 c5] 47))) := (Below.refl _ _).alloc (Nat.le_refl _) _
        have HBS1 : Hid (BSl (wo.alloc (.cells #[.int .i64 off, .slice p5 n2 c5] 47)) p5 n2 c5 SH) := HBS.out.below HBA.out
        have HBK1 : Hid (BSl (wo.alloc (.cells #[.int .i64 off, .slice p5 n2 c5] 47)) p6 n2 c6 AK) := HAKs.out.below HBA.out
        have HF1 : Hid (FldAt (wo.alloc (.cells #[.int .i64 off, .slice p5 n2 c5] 47)) (some ⟨wo.heap.size, 0, none⟩) 1 [(off, SH)]) := FldAt.one HBS.out
        go_wp2_with fail
        refine (bequal _ _ _ _ _ _ _ _ _ HBK1 HBS1).mono ?_
        rintro e w' ⟨rfl, hw'⟩
        have hw'' := hw'.symm
        subst hw''
        by_cases heq : AK = SH
        · have hd : decide (AK = SH) = true := decide_eq_true heq
          rw [hd]
          have HF : Hid (fieldsOf off msk ws = [(off, SH)]) := fieldsOf_one HM.out.1 HS5.out (by rw [← HE.out.2]; exact heq)
          clear heq hd
          go_wp2
          go_ret
          refine ⟨some ⟨wo.heap.size, 0, none⟩, 1, ?_, ?_, ?_⟩
          · rw [HF.out]; rfl
          · rw [HF.out]; exact HF1.out
          · exact HGE.out.2.2.2.trans (HBA.out.mono HGE.out.2.2.2.size)
        · have hd : decide (AK = SH) = false := decide_eq_false heq
          rw [hd]
          have HF : Hid (fieldsOf off msk ws = [(off, SH), (off, AK)]) := by
            have := fieldsOf_two (ws := ws) HM.out.1 HS5.out (by rw [← HE.out.2]; exact heq)
            rwa [← HE.out.2] at this
          clear heq hd
          obtain ⟨i0, hi, hz0, hz1, hz2⟩ := info_parts Trym.info47
          have HL0 : (wo.alloc (.cells #[.int .i64 off, .slice p5 n2 c5] 47)).ownsRow wo.heap.size 47 2 (.slice (some ⟨wo.heap.size, 0, none⟩) 1 1) 1 [.int .i64 off, .slice p5 n2 c5] := World.ownsRow_lit wo #[.int .i64 off, .slice p5 n2 c5] 1 (Nat.le_refl _) (by decide) rfl
          go_wp2_with (at_builtin; refine wpList_append_own _ rfl _ _ 37 rfl wo.heap.size 47 i0 (.agg #[.int .i64 0, .slice none 0 0]) 2 32 Trym.underlying37 hi hz0 hz1 hz2 rfl (by decide) _ _ _ rfl (HL0.alloc _) ⟨wo.heap.size + 1, 0, none⟩ 1 1 [.int .i64 off, .slice p6 n2 c6] rfl rfl ?d1 ?d2 ?d3 ?d4 ?d5 ?_)
          case d1 => exact new_cells2' (wo.alloc (.cells #[.int .i64 off, .slice p5 n2 c5] 47)) _ (by simp) _ _ _
          case d2 => exact one2 _ _ _ _
          case d3 => decide
          case d4 => decide
          case d5 => simp; omega
          intro v' w5 hown hgrow _
          obtain ⟨pf, cf, hv⟩ : ∃ p c, v' = .slice p 2 c := by
            rcases hown.2 with ⟨_, h⟩ | ⟨g, cap, cur, hv, _⟩
            · omega
            · exact ⟨_, _, hv⟩
          subst hv
          have HB5 : Hid (Below wo.heap.size wo w5) := ((HBA.out.alloc (by simp) _).grown hgrow (by simp; omega) (by intro k hk; simp [Value.ownBlock] at hk; omega))
          have HF5 : Hid (FldAt w5 pf 2 [(off, SH), (off, AK)]) := FldAt.two hown (HBS.out.below HB5.out) (HAKs.out.below HB5.out)
          clear hown hgrow HL0 hi hz0 hz1 hz2
          go_wp2
          go_ret
          refine ⟨pf, cf, ?_, ?_, ?_⟩
          · rw [HF.out]; rfl
          · rw [HF.out]; exact HF5.out
          · exact HGE.out.2.2.2.trans (HB5.out.mono HGE.out.2.2.2.size)
      · have HAL : Hid (allB 0 (joinL andB msk (selW off n2 ws)) = true) := by rw [← HE.out.1]; exact hal
        clear hal
        have HS5 : Hid (msk = if allB 0 (joinL andB msk (selW off n2 ws)) = true then msk else joinL andB msk (selW off n2 ws)) := by rw [HAL.out]; rfl
        have HBS : Hid (BSl wo p2 n2 c2 msk) := HM.out.below HGE.out.2.2.2
        have HBA : Hid (Below wo.heap.size wo (wo.alloc (.cells #[.int .i64 off, .slice p2 n2 c2] 47))) := (Below.refl _ _).alloc (Nat.le_refl _) _
        have HBS1 : Hid (BSl (wo.alloc (.cells #[.int .i64 off, .slice p2 n2 c2] 47)) p2 n2 c2 msk) := HBS.out.below HBA.out
        have HBK1 : Hid (BSl (wo.alloc (.cells #[.int .i64 off, .slice p2 n2 c2] 47)) p6 n2 c6 AK) := HAKs.out.below HBA.out
        have HF1 : Hid (FldAt (wo.alloc (.cells #[.int .i64 off, .slice p2 n2 c2] 47)) (some ⟨wo.heap.size, 0, none⟩) 1 [(off, msk)]) := FldAt.one HBS.out
        go_wp2_with fail
        refine (bequal _ _ _ _ _ _ _ _ _ HBK1 HBS1).mono ?_
        rintro e w' ⟨rfl, hw'⟩
        have hw'' := hw'.symm
        subst hw''
        by_cases heq : AK = msk
        · have hd : decide (AK = msk) = true := decide_eq_true heq
          rw [hd]
          have HF : Hid (fieldsOf off msk ws = [(off, msk)]) := fieldsOf_one HM.out.1 HS5.out (by rw [← HE.out.2]; exact heq)
          clear heq hd
          go_wp2
          go_ret
          refine ⟨some ⟨wo.heap.size, 0, none⟩, 1, ?_, ?_, ?_⟩
          · rw [HF.out]; rfl
          · rw [HF.out]; exact HF1.out
          · exact HGE.out.2.2.2.trans (HBA.out.mono HGE.out.2.2.2.size)
        · have hd : decide (AK = msk) = false := decide_eq_false heq
          rw [hd]
          have HF : Hid (fieldsOf off msk ws = [(off, msk), (off, AK)]) := by
            have := fieldsOf_two (ws := ws) HM.out.1 HS5.out (by rw [← HE.out.2]; exact heq)
            rwa [← HE.out.2] at this
          clear heq hd
          obtain ⟨i0, hi, hz0, hz1, hz2⟩ := info_parts Trym.info47
          have HL0 : (wo.alloc (.cells #[.int .i64 off, .slice p2 n2 c2] 47)).ownsRow wo.heap.size 47 2 (.slice (some ⟨wo.heap.size, 0, none⟩) 1 1) 1 [.int .i64 off, .slice p2 n2 c2] := World.ownsRow_lit wo #[.int .i64 off, .slice p2 n2 c2] 1 (Nat.le_refl _) (by decide) rfl
          go_wp2_with (at_builtin; refine wpList_append_own _ rfl _ _ 37 rfl wo.heap.size 47 i0 (.agg #[.int .i64 0, .slice none 0 0]) 2 32 Trym.underlying37 hi hz0 hz1 hz2 rfl (by decide) _ _ _ rfl (HL0.alloc _) ⟨wo.heap.size + 1, 0, none⟩ 1 1 [.int .i64 off, .slice p6 n2 c6] rfl rfl ?d1 ?d2 ?d3 ?d4 ?d5 ?_)
          case d1 => exact new_cells2' (wo.alloc (.cells #[.int .i64 off, .slice p2 n2 c2] 47)) _ (by simp) _ _ _
          case d2 => exact one2 _ _ _ _
          case d3 => decide
          case d4 => decide
          case d5 => simp; omega
          intro v' w5 hown hgrow _
          obtain ⟨pf, cf, hv⟩ : ∃ p c, v' = .slice p 2 c := by
            rcases hown.2 with ⟨_, h⟩ | ⟨g, cap, cur, hv, _⟩
            · omega
            · exact ⟨_, _, hv⟩
          subst hv
          have HB5 : Hid (Below wo.heap.size wo w5) := ((HBA.out.alloc (by simp) _).grown hgrow (by simp; omega) (by intro k hk; simp [Value.ownBlock] at hk; omega))
          have HF5 : Hid (FldAt w5 pf 2 [(off, msk), (off, AK)]) := FldAt.two hown (HBS.out.below HB5.out) (HAKs.out.below HB5.out)
          clear hown hgrow HL0 hi hz0 hz1 hz2
          go_wp2
          go_ret
          refine ⟨pf, cf, ?_, ?_, ?_⟩
          · rw [HF.out]; rfl
          · rw [HF.out]; exact HF5.out
          · exact HGE.out.2.2.2.trans (HB5.out.mono HGE.out.2.2.2.size)

end Go.Proofs.Qxb6000440aMods
