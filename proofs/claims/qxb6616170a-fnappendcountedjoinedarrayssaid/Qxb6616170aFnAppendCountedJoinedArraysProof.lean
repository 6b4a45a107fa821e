/-
  SEAT b6616170a. 'Rows.FnAppendCountedJoinedArraysSaid' PROVED.
-/
import Derived.Test.Qxb6616170aOpen
import Derived.Test.Qxb6616170aLaw7
namespace Go.Proofs.Qxb6616170a.fnAppendCountedJoinedArrays
open Go Go.RowKit
open Go.ChangeShapes Go.WideShapes Go.ChangeAt Go.RowKit
set_option linter.unusedVariables false

theorem walk {w : World} {a b : Option Addr} {n c m d : Nat}
    (h : ∃ xs : List Int, xs.length = n ∧ n ≤ c ∧ c ≤ maxLen ∧ (∀ x ∈ xs, 0 ≤ x ∧ x ≤ 255) ∧ Rd 0 w.heap.size w (.slice a n c) xs)
    (h' : ∃ ys : List Int, ys.length = m ∧ m ≤ d ∧ d ≤ maxLen ∧ (∀ x ∈ ys, 0 ≤ x ∧ x ≤ 255) ∧ Rd 0 w.heap.size w (.slice b m d) ys) :
    Calls Try.prog 7 #[.slice a n c, .slice b m d] w fun e w' => e = .returned (.bool true) ∧ Below w.heap.size w w' := by
  obtain ⟨xs, e1, m0, m1, _, r1⟩ := h
  obtain ⟨ys, e2, m2, m3, _, r2⟩ := h'
  unfold maxLen at *
  by_cases hno : 1048576 < n ∨ 1048576 < m ∨ n = 0 ∨ m = 0 ∨ xs.getD 0 0 ≠ 91 ∨ ys.getD 0 0 ≠ 91
  · refine (early7 (by omega) (by omega) r1 r2 hno).mono fun e w' ⟨he, hw⟩ => ⟨he, ?_⟩
    rw [← hw]
    exact Below.refl _ _
  · simp only [not_or, Decidable.not_not] at hno
    obtain ⟨q1, q2, q3, q4, q5, q6⟩ := hno
    obtain ⟨x, rfl, tx, lx, _⟩ := r1.txt (by omega)
    obtain ⟨y, rfl, ty, ly, _⟩ := r2.txt (by omega)
    exact main7 (by omega) (by omega) (by omega) (by omega) e1 e2 tx ty r1 r2 q5 q6


set_option maxRecDepth 100000 in
theorem lifted (os : Os) (started : os.Started) (H : Type) (enc : TypeId × Value → H) :
    ReturnsInHanded {} Try.checked os 7 .any (Rows.fnAppendCountedJoinedArraysSpec.pre6 enc Try.prog Try.f7 Rows.fnAppendCountedJoinedArraysRow.domain false) (Rows.fnAppendCountedJoinedArraysSpec.post enc Try.prog Try.f7 false true false false) := by
  refine returnsInHanded_of_change (C := Try.checked) own started (by kernel_rfl) Try.func7
    (ChangeSpec.witness6 (enc := enc) (C := Try.checked) false ⟨#[], #[.slice none 0 0, .slice none 0 0], []⟩ 8 (by kernel_rfl) (by kernel_rfl) (by kernel_rfl) (by kernel_rfl)) ?_
  intro W base args ds gs before hval0 hW hcnd _
  have hval : ∀ (j : Nat) t v, Try.f7.params[j]? = some t → args[j]? = some v → Value.okWide Try.prog W .any base t v := hval0
  have hW' := hW
  obtain ⟨p, q, hA0, hV, rfl, hfz, hnd⟩ := hW
  have hA : DataW.TrodAll enc Try.prog W 0 (fun _ => true) true Try.f7.params.toList args.toList ds p := hA0
  rw [Try.params7] at hA hval
  obtain ⟨v0, vs0, d0, ds0, p0, q0, hargs, rfl, rfl, h0, r0⟩ := trodAll_cons hA
  obtain ⟨v1, vs1, d1, ds1, p1, q1, rfl, rfl, rfl, h1, r1⟩ := trodAll_cons r0
  obtain ⟨rfl, rfl, rfl⟩ := trodAll_nil r1
  obtain rfl : args = #[v0, v1] := by cases args; simp_all
  obtain ⟨rfl, rfl⟩ := trodVars_none hV
  obtain ⟨a0, len0, cap0, rfl⟩ := okWide_slice Try.underlying22 (hval 0 22 v0 rfl rfl)
  have lt0 : ∀ x ∈ p0, x.block < W.heap.size := by obtain ⟨m, hm⟩ := h0; exact DataW.trod_lt m _ _ _ hm
  obtain ⟨a1, len1, cap1, rfl⟩ := okWide_slice Try.underlying22 (hval 1 22 v1 rfl rfl)
  have lt1 : ∀ x ∈ p1, x.block < W.heap.size := by obtain ⟨m, hm⟩ := h1; exact DataW.trod_lt m _ _ _ hm
  clear hA0 hval0
  refine (walk (rd_bytes h0) (rd_bytes h1)).mono fun e W' ⟨he, bel⟩ => ?_
  subst he
  exact ⟨_, rfl, _, _, _, [], _, [], hW', trodAll_mk1 (shut_bool Try.underlying4 _), (trodAll_cons_mk (Below.trod laidOut (by kernel_rfl) (of_decide_eq_true (by kernel_rfl)) h0 bel lt0) (trodAll_cons_mk (Below.trod laidOut (by kernel_rfl) (of_decide_eq_true (by kernel_rfl)) h1 bel lt1) trodAll_mk0)), rfl, bel.frame _, fun h => by cases h⟩

theorem over : Rows.fnAppendCountedJoinedArraysRow.holds Try.pinned (OpenSpec.ofChange Rows.fnAppendCountedJoinedArraysSpec) :=
  OpenClaim.holds_of_wide 7 Try.f7 rfl rfl rfl rfl rfl rfl rfl ⟨rfl, rfl, rfl, rfl, rfl⟩ rfl rfl rfl rfl rfl (by kernel_rfl) Try.func7 (by kernel_rfl)
    (of_decide_eq_true (by kernel_rfl)) (by unfold Func.isWrapper; first | (rw [if_pos (by decide +kernel)]; kernel_rfl) | (rw [if_neg (by decide +kernel)]; exact ⟨rfl, rfl⟩))
    (fun os started H enc _ => lifted os started H enc)

/-- THE STATEMENT -/
theorem proved : Rows.FnAppendCountedJoinedArraysSaid := over
#print axioms proved
end Go.Proofs.Qxb6616170a.fnAppendCountedJoinedArrays
