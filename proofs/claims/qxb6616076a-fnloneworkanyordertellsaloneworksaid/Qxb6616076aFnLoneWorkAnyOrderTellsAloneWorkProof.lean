/-
  SEAT b6616076a. 'Rows.FnLoneWorkAnyOrderTellsAloneWorkSaid' PROVED.
-/
import Derived.Test.Qxb6616076aOpen
import Derived.Test.Qxb6616076aZero6
import Derived.Test.Qxb6616076aWalk6
namespace Go.Proofs.Qxb6616076a.fnLoneWorkAnyOrderTellsAloneWork
open Go Go.RowKit
open Go.ChangeShapes Go.WideShapes Go.ChangeAt Go.RowKit
set_option linter.unusedVariables false

/-- A []int that came in. -/
theorem in_ints {H : Type} {enc : TypeId × Value → H} {W : World} {a : Option Addr} {len cap : Nat} {d : DataW H} {p : List MemPlace}
    (h : DataW.Trod enc Try.prog W 0 (fun _ => true) true 36 (.slice a len cap) d p) :
    ∃ zs : List Int, zs.length = len ∧ len ≤ maxLen ∧ (len = 0 ∨ ∃ x, a = some x ∧ Row W.heap.size W x len fun j => .int .i64 (zs.getD j 0)) := by
  obtain ⟨fuel, hf⟩ := h
  rcases open_ints Try.underlying36 Try.underlying3 (by kernel_rfl) hf with ⟨hcs, _⟩ | ⟨x, l, c, zs, hcs, _, hl, hm, hz, _, hcell, hwz⟩
  · simp [Value.cells] at hcs
    obtain ⟨rfl, rfl, rfl⟩ := hcs
    exact ⟨[], rfl, Nat.zero_le _, .inl rfl⟩
  · simp [Value.cells] at hcs
    obtain ⟨rfl, rfl, rfl⟩ := hcs
    have hz' : zs.length = cap := by simpa using hz
    refine ⟨zs.take len, by simp; omega, by omega, .inr ⟨x, rfl, fun j hj => ?_⟩⟩
    have := hcell j (by omega)
    refine ⟨lt_of_cell this, this.trans ?_⟩
    simp [List.getD, hj]

theorem in_bools {H : Type} {enc : TypeId × Value → H} {W : World} {a : Option Addr} {len cap : Nat} {d : DataW H} {p : List MemPlace}
    (h : DataW.Trod enc Try.prog W 0 (fun _ => true) true 22 (.slice a len cap) d p) :
    ∃ bs : List Bool, bs.length = len ∧ len ≤ maxLen ∧ (len = 0 ∨ ∃ x, a = some x ∧ Row W.heap.size W x len fun j => .bool (bs.getD j false)) := by
  obtain ⟨fuel, hf⟩ := h
  rcases Deep.open_bools Try.underlying22 Try.underlying4 (by kernel_rfl) hf with ⟨hcs, _⟩ | ⟨x, l, c, B, hcs, _, hl, hm, _, hcell⟩
  · simp [Value.cells] at hcs
    obtain ⟨rfl, rfl, rfl⟩ := hcs
    exact ⟨[], rfl, Nat.zero_le _, .inl rfl⟩
  · simp [Value.cells] at hcs
    obtain ⟨rfl, rfl, rfl⟩ := hcs
    refine ⟨(List.range len).map B, by simp, by omega, .inr ⟨x, rfl, fun j hj => ?_⟩⟩
    have := hcell j (by omega)
    refine ⟨lt_of_cell this, this.trans ?_⟩
    simp [List.getD, hj]

theorem walk {w : World} {base : Int} {a1 a2 a3 : Option Addr} {k1 c1 k2 c2 k3 c3 : Nat}
    (h1 : ∃ zs : List Int, zs.length = k1 ∧ k1 ≤ maxLen ∧ (k1 = 0 ∨ ∃ x, a1 = some x ∧ Row w.heap.size w x k1 fun j => .int .i64 (zs.getD j 0)))
    (h2 : ∃ bs : List Bool, bs.length = k2 ∧ k2 ≤ maxLen ∧ (k2 = 0 ∨ ∃ x, a2 = some x ∧ Row w.heap.size w x k2 fun j => .bool (bs.getD j false)))
    (h3 : ∃ zs : List Int, zs.length = k3 ∧ k3 ≤ maxLen ∧ (k3 = 0 ∨ ∃ x, a3 = some x ∧ Row w.heap.size w x k3 fun j => .int .i64 (zs.getD j 0))) :
    Calls Try.prog 6 #[.int .i64 base, .slice a1 k1 c1, .slice a2 k2 c2, .slice a3 k3 c3] w fun e w' => e = .returned (.bool true) ∧ Below w.heap.size w w' := by
  obtain ⟨z1, e1, m1, r1⟩ := h1
  obtain ⟨z2, e2, m2, r2⟩ := h2
  obtain ⟨z3, e3, m3, r3⟩ := h3
  unfold maxLen at *
  by_cases hno : 32768 < k1 ∨ 32768 < k2 ∨ 32768 < k3 ∨ k2 ≠ k1 ∨ k3 ≠ k1
  · refine (early6 (by omega) hno).mono fun e w' ⟨he, hw⟩ => ⟨he, ?_⟩
    rw [← hw]
    exact Below.refl _ _
  · obtain rfl : k2 = k1 := by omega
    obtain rfl : k3 = k2 := by omega
    by_cases h0 : k3 = 0
    · subst h0
      exact zero6
    · obtain ⟨x1, rfl, q1⟩ := r1.resolve_left h0
      obtain ⟨x2, rfl, q2⟩ := r2.resolve_left h0
      obtain ⟨x3, rfl, q3⟩ := r3.resolve_left h0
      exact main6 (by omega) e1 e2 e3 q1 q2 q3

set_option maxRecDepth 100000 in
theorem lifted (os : Os) (started : os.Started) (H : Type) (enc : TypeId × Value → H) :
    ReturnsInHanded {} Try.checked os 6 .any (Rows.fnLoneWorkAnyOrderTellsAloneWorkSpec.pre6 enc Try.prog Try.f6 Rows.fnLoneWorkAnyOrderTellsAloneWorkRow.domain false) (Rows.fnLoneWorkAnyOrderTellsAloneWorkSpec.post enc Try.prog Try.f6 false true false false) := by
  refine returnsInHanded_of_change (C := Try.checked) own started (by kernel_rfl) Try.func6
    (ChangeSpec.witness6 (enc := enc) (C := Try.checked) false ⟨#[], #[.int .i64 0, .slice none 0 0, .slice none 0 0, .slice none 0 0], []⟩ 8 (by kernel_rfl) (by kernel_rfl) (by kernel_rfl) (by kernel_rfl)) ?_
  intro W base args ds gs before hval0 hW hcnd _
  have hval : ∀ (j : Nat) t v, Try.f6.params[j]? = some t → args[j]? = some v → Value.okWide Try.prog W .any base t v := hval0
  have hW' := hW
  obtain ⟨p, q, hA0, hV, rfl, hfz, hnd⟩ := hW
  have hA : DataW.TrodAll enc Try.prog W 0 (fun _ => true) true Try.f6.params.toList args.toList ds p := hA0
  rw [Try.params6] at hA hval
  obtain ⟨v0, vs0, d0, ds0, p0, q0, hargs, rfl, rfl, h0, r0⟩ := trodAll_cons hA
  obtain ⟨v1, vs1, d1, ds1, p1, q1, rfl, rfl, rfl, h1, r1⟩ := trodAll_cons r0
  obtain ⟨v2, vs2, d2, ds2, p2, q2, rfl, rfl, rfl, h2, r2⟩ := trodAll_cons r1
  obtain ⟨v3, vs3, d3, ds3, p3, q3, rfl, rfl, rfl, h3, r3⟩ := trodAll_cons r2
  obtain ⟨rfl, rfl, rfl⟩ := trodAll_nil r3
  obtain rfl : args = #[v0, v1, v2, v3] := by cases args; simp_all
  obtain ⟨rfl, rfl⟩ := trodVars_none hV
  obtain ⟨a0, rfl, rfl, rfl, w0⟩ := open_int Try.underlying3 (hval 0 3 v0 rfl rfl) h0
  obtain ⟨a1, len1, cap1, rfl⟩ := okWide_slice Try.underlying36 (hval 1 36 v1 rfl rfl)
  have lt1 : ∀ x ∈ p1, x.block < W.heap.size := by obtain ⟨m, hm⟩ := h1; exact DataW.trod_lt m _ _ _ hm
  obtain ⟨a2, len2, cap2, rfl⟩ := okWide_slice Try.underlying22 (hval 2 22 v2 rfl rfl)
  have lt2 : ∀ x ∈ p2, x.block < W.heap.size := by obtain ⟨m, hm⟩ := h2; exact DataW.trod_lt m _ _ _ hm
  obtain ⟨a3, len3, cap3, rfl⟩ := okWide_slice Try.underlying36 (hval 3 36 v3 rfl rfl)
  have lt3 : ∀ x ∈ p3, x.block < W.heap.size := by obtain ⟨m, hm⟩ := h3; exact DataW.trod_lt m _ _ _ hm
  clear hA0 hval0
  refine (walk (in_ints h1) (in_bools h2) (in_ints h3)).mono fun e W' ⟨he, bel⟩ => ?_
  subst he
  exact ⟨_, rfl, _, _, _, [], _, [], hW', trodAll_mk1 (shut_bool Try.underlying4 _), (trodAll_cons_mk (shut_int Try.underlying3 w0) (trodAll_cons_mk (Below.trod laidOut (by kernel_rfl) (of_decide_eq_true (by kernel_rfl)) h1 bel lt1) (trodAll_cons_mk (Below.trod laidOut (by kernel_rfl) (of_decide_eq_true (by kernel_rfl)) h2 bel lt2) (trodAll_cons_mk (Below.trod laidOut (by kernel_rfl) (of_decide_eq_true (by kernel_rfl)) h3 bel lt3) trodAll_mk0)))), rfl, bel.frame _, fun h => by cases h⟩

theorem over : Rows.fnLoneWorkAnyOrderTellsAloneWorkRow.holds Try.pinned (OpenSpec.ofChange Rows.fnLoneWorkAnyOrderTellsAloneWorkSpec) :=
  OpenClaim.holds_of_wide 6 Try.f6 rfl rfl rfl rfl rfl rfl rfl ⟨rfl, rfl, rfl, rfl, rfl⟩ rfl rfl rfl rfl rfl (by kernel_rfl) Try.func6 (by kernel_rfl)
    (of_decide_eq_true (by kernel_rfl)) (by unfold Func.isWrapper; first | (rw [if_pos (by decide +kernel)]; kernel_rfl) | (rw [if_neg (by decide +kernel)]; exact ⟨rfl, rfl⟩))
    (fun os started H enc _ => lifted os started H enc)

/-- THE STATEMENT -/
theorem proved : Rows.FnLoneWorkAnyOrderTellsAloneWorkSaid := over
#print axioms proved
end Go.Proofs.Qxb6616076a.fnLoneWorkAnyOrderTellsAloneWork
