/-
  The law FnFieldsAtBracketsTheMask, proved: the guide's frame at this function's number and types, its walk in Law5.
-/
import Derived.Test.Qxb6000440aModsRows
import Derived.Test.Qxb6000440aModsLaw5
import Derived.Test.Qxb6000440aModsOpen
import Derived.WalkKit
import Derived.ProofKit
import Derived.OpenShut
import Derived.ShutString
import Derived.ChangeOld
import Derived.Below
namespace Go.Proofs.Qxb6000440aMods.fnFieldsAtBracketsTheMask
open Go.ChangeShapes Go.WideShapes Go.ChangeAt Go.RowKit
set_option linter.unusedVariables false

theorem own : ownKnob Trym.prog.godebug = none := by kernel_rfl
theorem laidOut : laidOutB Trym.prog = true := by kernel_rfl

set_option maxRecDepth 100000 in
theorem lifted (os : Os) (started : os.Started) (H : Type) (enc : TypeId × Value → H) :
    ReturnsInHanded {} Trym.checked os 7 .any (Rows.fnFieldsAtBracketsTheMaskSpec.pre6 enc Trym.prog Trym.f7 Rows.fnFieldsAtBracketsTheMaskRow.domain false) (Rows.fnFieldsAtBracketsTheMaskSpec.post enc Trym.prog Trym.f7 false true false false) := by
  refine returnsInHanded_of_change (C := Trym.checked) own started (by kernel_rfl) Trym.func7
    (ChangeSpec.witness6 (enc := enc) (C := Trym.checked) false ⟨#[], #[.slice none 0 0, .agg #[.int .i64 0, .slice none 0 0, .slice none 0 0]], []⟩ 8 (by kernel_rfl) (by kernel_rfl) (by kernel_rfl) (by kernel_rfl)) ?_
  intro W base args ds gs before hval0 hW hcnd _
  have hval : ∀ (j : Nat) t v, Trym.f7.params[j]? = some t → args[j]? = some v → Value.okWide Trym.prog W .any base t v := hval0
  have hW' := hW
  obtain ⟨p, q, hA0, hV, rfl, hfz, hnd⟩ := hW
  have hA : DataW.TrodAll enc Trym.prog W 0 (fun _ => true) true Trym.f7.params.toList args.toList ds p := hA0
  rw [Trym.params7] at hA hval
  obtain ⟨v0, vs0, d0, ds0, p0, q0, hargs, rfl, rfl, h0, r0⟩ := trodAll_cons hA
  obtain ⟨v1, vs1, d1, ds1, p1, q1, rfl, rfl, rfl, h1, r1⟩ := trodAll_cons r0
  obtain ⟨rfl, rfl, rfl⟩ := trodAll_nil r1
  obtain rfl : args = #[v0, v1] := by cases args; simp_all
  obtain ⟨rfl, rfl⟩ := trodVars_none hV
  have k0 := h0
  have lt0 : ∀ x ∈ p0, x.block < W.heap.size := by obtain ⟨m, hm⟩ := k0; exact DataW.trod_lt m _ _ _ hm
  have k1 := h1
  have lt1 : ∀ x ∈ p1, x.block < W.heap.size := by obtain ⟨m, hm⟩ := k1; exact DataW.trod_lt m _ _ _ hm
  obtain ⟨a0, len0, cap0, rfl⟩ := okWide_slice Trym.underlying29 (hval 0 29 v0 rfl rfl)
  obtain ⟨ws, HW⟩ : ∃ ws, WsAt 0 W a0 len0 ws := by
    obtain ⟨fuel, hf⟩ := h0
    obtain ⟨a, l, c, ws, hcs, hw⟩ := open_walk hf
    simp [Value.cells] at hcs
    obtain ⟨rfl, rfl, rfl⟩ := hcs
    exact ⟨ws, hw⟩
  obtain ⟨c0, c1, c2, y0, y1, y2, m1, rfl, _, _, hy0, hy1, hy2⟩ := Go.Joins.open_agg3 Trym.underlying31 (by kernel_rfl) Trym.cells31 (hval 1 31 v1 rfl rfl) h1
  obtain ⟨off, e0, _, _⟩ := DataW.trod_int Trym.underlying3 hy0
  obtain ⟨b1, l1, x1, vs, e1, B1⟩ := open_bytes hy1
  obtain ⟨b2, l2, x2, ms, e2, B2⟩ := open_bytes hy2
  simp only [List.cons.injEq, and_true] at e0 e1 e2
  subst e0 e1 e2
  clear hA0 hval0
  refine (law5 a0 len0 cap0 ws off b1 b2 l1 x1 l2 x2 vs ms W HW B1 B2).mono fun e W' ⟨he, bel⟩ => ?_
  subst he
  exact ⟨_, rfl, _, _, _, [], _, [], hW', trodAll_mk1 (shut_bool Trym.underlying4 _), (trodAll_cons_mk (Below.trod laidOut (by kernel_rfl) (of_decide_eq_true (by kernel_rfl)) k0 bel lt0) (trodAll_cons_mk (Below.trod laidOut (by kernel_rfl) (of_decide_eq_true (by kernel_rfl)) k1 bel lt1) trodAll_mk0)), rfl, bel.frame _, fun h => by cases h⟩

theorem over : Rows.fnFieldsAtBracketsTheMaskRow.holds Trym.pinned (OpenSpec.ofChange Rows.fnFieldsAtBracketsTheMaskSpec) :=
  OpenClaim.holds_of_wide 7 Trym.f7 rfl rfl rfl rfl rfl rfl rfl ⟨rfl, rfl, rfl, rfl, rfl⟩ rfl rfl rfl rfl rfl (by kernel_rfl) Trym.func7 (by kernel_rfl)
    (of_decide_eq_true (by kernel_rfl)) (by unfold Func.isWrapper; first | (rw [if_pos (by decide +kernel)]; kernel_rfl) | (rw [if_neg (by decide +kernel)]; exact ⟨rfl, rfl⟩))
    (fun os started H enc _ => lifted os started H enc)

theorem proved : Rows.FnFieldsAtBracketsTheMaskSaid := over
#print axioms proved
end Go.Proofs.Qxb6000440aMods.fnFieldsAtBracketsTheMask
