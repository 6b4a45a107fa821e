/-
  SEAT b6616170a. 'Rows.FnIpv6NullIsSixteenZeroEnum8NullsSaid' PROVED.
-/
import Derived.Test.Qxb6616170aOpen
import Derived.Test.Qxb6616170aLaw3
namespace Go.Proofs.Qxb6616170a.fnIpv6NullIsSixteenZeroEnum8Nulls
open Go Go.RowKit
open Go.ChangeShapes Go.WideShapes Go.ChangeAt Go.RowKit
set_option linter.unusedVariables false

theorem walk {w : World} {a : Option Addr} {n c : Nat}
    (h : ∃ xs : List Int, xs.length = n ∧ n ≤ c ∧ c ≤ maxLen ∧ (∀ x ∈ xs, 0 ≤ x ∧ x ≤ 255) ∧ Rd 0 w.heap.size w (.slice a n c) xs) :
    Calls Try.prog 3 #[.slice a n c] w fun e w' => e = .returned (.bool true) ∧ Below w.heap.size w w' := by
  obtain ⟨xs, e1, m0, m1, _, r1⟩ := h
  unfold maxLen at *
  by_cases hno : 1048576 < n
  · refine (early3 (by omega) hno).mono fun e w' ⟨he, hw⟩ => ⟨he, ?_⟩
    rw [← hw]
    exact Below.refl _ _
  · exact main3 (by omega) e1 r1


set_option maxRecDepth 100000 in
theorem lifted (os : Os) (started : os.Started) (H : Type) (enc : TypeId × Value → H) :
    ReturnsInHanded {} Try.checked os 3 .any (Rows.fnIpv6NullIsSixteenZeroEnum8NullsSpec.pre6 enc Try.prog Try.f3 Rows.fnIpv6NullIsSixteenZeroEnum8NullsRow.domain false) (Rows.fnIpv6NullIsSixteenZeroEnum8NullsSpec.post enc Try.prog Try.f3 false true false false) := by
  refine returnsInHanded_of_change (C := Try.checked) own started (by kernel_rfl) Try.func3
    (ChangeSpec.witness6 (enc := enc) (C := Try.checked) false ⟨#[], #[.slice none 0 0], []⟩ 8 (by kernel_rfl) (by kernel_rfl) (by kernel_rfl) (by kernel_rfl)) ?_
  intro W base args ds gs before hval0 hW hcnd _
  have hval : ∀ (j : Nat) t v, Try.f3.params[j]? = some t → args[j]? = some v → Value.okWide Try.prog W .any base t v := hval0
  have hW' := hW
  obtain ⟨p, q, hA0, hV, rfl, hfz, hnd⟩ := hW
  have hA : DataW.TrodAll enc Try.prog W 0 (fun _ => true) true Try.f3.params.toList args.toList ds p := hA0
  rw [Try.params3] at hA hval
  obtain ⟨v0, vs0, d0, ds0, p0, q0, hargs, rfl, rfl, h0, r0⟩ := trodAll_cons hA
  obtain ⟨rfl, rfl, rfl⟩ := trodAll_nil r0
  obtain rfl : args = #[v0] := by cases args; simp_all
  obtain ⟨rfl, rfl⟩ := trodVars_none hV
  obtain ⟨a0, len0, cap0, rfl⟩ := okWide_slice Try.underlying22 (hval 0 22 v0 rfl rfl)
  have lt0 : ∀ x ∈ p0, x.block < W.heap.size := by obtain ⟨m, hm⟩ := h0; exact DataW.trod_lt m _ _ _ hm
  clear hA0 hval0
  refine (walk (rd_bytes h0)).mono fun e W' ⟨he, bel⟩ => ?_
  subst he
  exact ⟨_, rfl, _, _, _, [], _, [], hW', trodAll_mk1 (shut_bool Try.underlying4 _), (trodAll_cons_mk (Below.trod laidOut (by kernel_rfl) (of_decide_eq_true (by kernel_rfl)) h0 bel lt0) trodAll_mk0), rfl, bel.frame _, fun h => by cases h⟩

theorem over : Rows.fnIpv6NullIsSixteenZeroEnum8NullsRow.holds Try.pinned (OpenSpec.ofChange Rows.fnIpv6NullIsSixteenZeroEnum8NullsSpec) :=
  OpenClaim.holds_of_wide 3 Try.f3 rfl rfl rfl rfl rfl rfl rfl ⟨rfl, rfl, rfl, rfl, rfl⟩ rfl rfl rfl rfl rfl (by kernel_rfl) Try.func3 (by kernel_rfl)
    (of_decide_eq_true (by kernel_rfl)) (by unfold Func.isWrapper; first | (rw [if_pos (by decide +kernel)]; kernel_rfl) | (rw [if_neg (by decide +kernel)]; exact ⟨rfl, rfl⟩))
    (fun os started H enc _ => lifted os started H enc)

/-- THE STATEMENT -/
theorem proved : Rows.FnIpv6NullIsSixteenZeroEnum8NullsSaid := over
#print axioms proved
end Go.Proofs.Qxb6616170a.fnIpv6NullIsSixteenZeroEnum8Nulls
