/-
  SEAT b6616076a. 'Rows.FnBranchCloneSharesEligibleOnlySaid' PROVED.
-/
import Derived.Test.Qxb6616076aOpen
import Derived.Test.Qxb6616076aEarly
import Derived.Test.Qxb6616076aWalk4
namespace Go.Proofs.Qxb6616076a.fnBranchCloneSharesEligibleOnly
open Go Go.RowKit
open Go.ChangeShapes Go.WideShapes Go.ChangeAt Go.RowKit
set_option linter.unusedVariables false

theorem walk {w : World} {a1 a2 a3 a4 a5 a6 a7 a8 a9 : Option Addr} {k1 c1 k2 c2 k3 c3 k4 c4 k5 c5 k6 c6 k7 c7 k8 c8 k9 c9 : Nat} {left : Int}
    (h1 : ∃ nl, ∃ bs : List Bool, bs.length = k1 ∧ k1 ≤ maxLen ∧ Rd 0 w.heap.size w (.slice a1 k1 c1) nl (bs.map Value.bool)) (h2 : ∃ nl, ∃ bs : List Bool, bs.length = k2 ∧ k2 ≤ maxLen ∧ Rd 0 w.heap.size w (.slice a2 k2 c2) nl (bs.map Value.bool)) (h3 : ∃ nl, ∃ bs : List Bool, bs.length = k3 ∧ k3 ≤ maxLen ∧ Rd 0 w.heap.size w (.slice a3 k3 c3) nl (bs.map Value.bool)) (h4 : ∃ nl, ∃ bs : List Bool, bs.length = k4 ∧ k4 ≤ maxLen ∧ Rd 0 w.heap.size w (.slice a4 k4 c4) nl (bs.map Value.bool)) (h5 : ∃ nl, ∃ bs : List Bool, bs.length = k5 ∧ k5 ≤ maxLen ∧ Rd 0 w.heap.size w (.slice a5 k5 c5) nl (bs.map Value.bool)) (h6 : ∃ nl, ∃ bs : List Bool, bs.length = k6 ∧ k6 ≤ maxLen ∧ Rd 0 w.heap.size w (.slice a6 k6 c6) nl (bs.map Value.bool)) (h7 : ∃ nl, ∃ bs : List Bool, bs.length = k7 ∧ k7 ≤ maxLen ∧ Rd 0 w.heap.size w (.slice a7 k7 c7) nl (bs.map Value.bool)) (h8 : ∃ nl, ∃ bs : List Bool, bs.length = k8 ∧ k8 ≤ maxLen ∧ Rd 0 w.heap.size w (.slice a8 k8 c8) nl (bs.map Value.bool)) (h9 : ∃ nl, ∃ bs : List Bool, bs.length = k9 ∧ k9 ≤ maxLen ∧ Rd 0 w.heap.size w (.slice a9 k9 c9) nl (bs.map Value.bool)) :
    Calls Try.prog 4 #[.slice a1 k1 c1, .slice a2 k2 c2, .slice a3 k3 c3, .slice a4 k4 c4, .slice a5 k5 c5, .slice a6 k6 c6, .slice a7 k7 c7, .slice a8 k8 c8, .slice a9 k9 c9, .int .i64 left] w fun e w' => e = .returned (.bool true) ∧ Below w.heap.size w w' := by
  obtain ⟨n1, x1, e1, m1, r1⟩ := h1
  obtain ⟨n2, x2, e2, m2, r2⟩ := h2
  obtain ⟨n3, x3, e3, m3, r3⟩ := h3
  obtain ⟨n4, x4, e4, m4, r4⟩ := h4
  obtain ⟨n5, x5, e5, m5, r5⟩ := h5
  obtain ⟨n6, x6, e6, m6, r6⟩ := h6
  obtain ⟨n7, x7, e7, m7, r7⟩ := h7
  obtain ⟨n8, x8, e8, m8, r8⟩ := h8
  obtain ⟨n9, x9, e9, m9, r9⟩ := h9
  unfold maxLen at *
  by_cases hno : 65536 < k1 ∨ 65536 < k2 ∨ 65536 < k3 ∨ 65536 < k4 ∨ 65536 < k5 ∨ 65536 < k6 ∨ 65536 < k7 ∨ 65536 < k8 ∨ 65536 < k9 ∨ k1 ≠ k9 ∨ k2 ≠ k9 ∨ k3 ≠ k9 ∨ k4 ≠ k9 ∨ k5 ≠ k9 ∨ k6 ≠ k9 ∨ k7 ≠ k9 ∨ k8 ≠ k9
  · refine (early4 (by omega) hno).mono fun e w' ⟨he, hw⟩ => ⟨he, ?_⟩
    rw [hw]
    exact Below.refl _ _
  · obtain ⟨n, hn⟩ : ∃ n, n = k9 := ⟨_, rfl⟩
    have q : k1 = n ∧ k2 = n ∧ k3 = n ∧ k4 = n ∧ k5 = n ∧ k6 = n ∧ k7 = n ∧ k8 = n ∧ k9 = n := by omega
    obtain ⟨g1, g2, g3, g4, g5, g6, g7, g8, g9⟩ := q
    have hl : x1.length ≤ 65536 ∧ x2.length ≤ 65536 ∧ x3.length ≤ 65536 ∧ x4.length ≤ 65536 ∧ x5.length ≤ 65536 ∧ x6.length ≤ 65536 ∧ x7.length ≤ 65536 ∧ x8.length ≤ 65536 ∧ x9.length ≤ 65536 := by omega
    rw [g1, g2, g3, g4, g5, g6, g7, g8, g9]
    refine main4 (n1 := n1) (n2 := n2) (n3 := n3) (n4 := n4) (n5 := n5) (n6 := n6) (n7 := n7) (n8 := n8) (n9 := n9) (by omega) hl ?_
    intro p hp
    simp only [List.mem_cons, List.not_mem_nil, or_false] at hp
    rcases hp with rfl | rfl | rfl | rfl | rfl | rfl | rfl | rfl | rfl
    · rw [g1] at r1; exact r1
    · rw [g2] at r2; exact r2
    · rw [g3] at r3; exact r3
    · rw [g4] at r4; exact r4
    · rw [g5] at r5; exact r5
    · rw [g6] at r6; exact r6
    · rw [g7] at r7; exact r7
    · rw [g8] at r8; exact r8
    · rw [g9] at r9; exact r9

set_option maxRecDepth 100000 in
theorem lifted (os : Os) (started : os.Started) (H : Type) (enc : TypeId × Value → H) :
    ReturnsInHanded {} Try.checked os 4 .any (Rows.fnBranchCloneSharesEligibleOnlySpec.pre6 enc Try.prog Try.f4 Rows.fnBranchCloneSharesEligibleOnlyRow.domain false) (Rows.fnBranchCloneSharesEligibleOnlySpec.post enc Try.prog Try.f4 false true false false) := by
  refine returnsInHanded_of_change (C := Try.checked) own started (by kernel_rfl) Try.func4
    (ChangeSpec.witness6 (enc := enc) (C := Try.checked) false ⟨#[], #[.slice none 0 0, .slice none 0 0, .slice none 0 0, .slice none 0 0, .slice none 0 0, .slice none 0 0, .slice none 0 0, .slice none 0 0, .slice none 0 0, .int .i64 0], []⟩ 8 (by kernel_rfl) (by kernel_rfl) (by kernel_rfl) (by kernel_rfl)) ?_
  intro W base args ds gs before hval0 hW hcnd _
  have hval : ∀ (j : Nat) t v, Try.f4.params[j]? = some t → args[j]? = some v → Value.okWide Try.prog W .any base t v := hval0
  have hW' := hW
  obtain ⟨p, q, hA0, hV, rfl, hfz, hnd⟩ := hW
  have hA : DataW.TrodAll enc Try.prog W 0 (fun _ => true) true Try.f4.params.toList args.toList ds p := hA0
  rw [Try.params4] at hA hval
  obtain ⟨v0, vs0, d0, ds0, p0, q0, hargs, rfl, rfl, h0, r0⟩ := trodAll_cons hA
  obtain ⟨v1, vs1, d1, ds1, p1, q1, rfl, rfl, rfl, h1, r1⟩ := trodAll_cons r0
  obtain ⟨v2, vs2, d2, ds2, p2, q2, rfl, rfl, rfl, h2, r2⟩ := trodAll_cons r1
  obtain ⟨v3, vs3, d3, ds3, p3, q3, rfl, rfl, rfl, h3, r3⟩ := trodAll_cons r2
  obtain ⟨v4, vs4, d4, ds4, p4, q4, rfl, rfl, rfl, h4, r4⟩ := trodAll_cons r3
  obtain ⟨v5, vs5, d5, ds5, p5, q5, rfl, rfl, rfl, h5, r5⟩ := trodAll_cons r4
  obtain ⟨v6, vs6, d6, ds6, p6, q6, rfl, rfl, rfl, h6, r6⟩ := trodAll_cons r5
  obtain ⟨v7, vs7, d7, ds7, p7, q7, rfl, rfl, rfl, h7, r7⟩ := trodAll_cons r6
  obtain ⟨v8, vs8, d8, ds8, p8, q8, rfl, rfl, rfl, h8, r8⟩ := trodAll_cons r7
  obtain ⟨v9, vs9, d9, ds9, p9, q9, rfl, rfl, rfl, h9, r9⟩ := trodAll_cons r8
  obtain ⟨rfl, rfl, rfl⟩ := trodAll_nil r9
  obtain rfl : args = #[v0, v1, v2, v3, v4, v5, v6, v7, v8, v9] := by cases args; simp_all
  obtain ⟨rfl, rfl⟩ := trodVars_none hV
  obtain ⟨a0, len0, cap0, rfl⟩ := okWide_slice Try.underlying22 (hval 0 22 v0 rfl rfl)
  have lt0 : ∀ x ∈ p0, x.block < W.heap.size := by obtain ⟨m, hm⟩ := h0; exact DataW.trod_lt m _ _ _ hm
  obtain ⟨a1, len1, cap1, rfl⟩ := okWide_slice Try.underlying22 (hval 1 22 v1 rfl rfl)
  have lt1 : ∀ x ∈ p1, x.block < W.heap.size := by obtain ⟨m, hm⟩ := h1; exact DataW.trod_lt m _ _ _ hm
  obtain ⟨a2, len2, cap2, rfl⟩ := okWide_slice Try.underlying22 (hval 2 22 v2 rfl rfl)
  have lt2 : ∀ x ∈ p2, x.block < W.heap.size := by obtain ⟨m, hm⟩ := h2; exact DataW.trod_lt m _ _ _ hm
  obtain ⟨a3, len3, cap3, rfl⟩ := okWide_slice Try.underlying22 (hval 3 22 v3 rfl rfl)
  have lt3 : ∀ x ∈ p3, x.block < W.heap.size := by obtain ⟨m, hm⟩ := h3; exact DataW.trod_lt m _ _ _ hm
  obtain ⟨a4, len4, cap4, rfl⟩ := okWide_slice Try.underlying22 (hval 4 22 v4 rfl rfl)
  have lt4 : ∀ x ∈ p4, x.block < W.heap.size := by obtain ⟨m, hm⟩ := h4; exact DataW.trod_lt m _ _ _ hm
  obtain ⟨a5, len5, cap5, rfl⟩ := okWide_slice Try.underlying22 (hval 5 22 v5 rfl rfl)
  have lt5 : ∀ x ∈ p5, x.block < W.heap.size := by obtain ⟨m, hm⟩ := h5; exact DataW.trod_lt m _ _ _ hm
  obtain ⟨a6, len6, cap6, rfl⟩ := okWide_slice Try.underlying22 (hval 6 22 v6 rfl rfl)
  have lt6 : ∀ x ∈ p6, x.block < W.heap.size := by obtain ⟨m, hm⟩ := h6; exact DataW.trod_lt m _ _ _ hm
  obtain ⟨a7, len7, cap7, rfl⟩ := okWide_slice Try.underlying22 (hval 7 22 v7 rfl rfl)
  have lt7 : ∀ x ∈ p7, x.block < W.heap.size := by obtain ⟨m, hm⟩ := h7; exact DataW.trod_lt m _ _ _ hm
  obtain ⟨a8, len8, cap8, rfl⟩ := okWide_slice Try.underlying22 (hval 8 22 v8 rfl rfl)
  have lt8 : ∀ x ∈ p8, x.block < W.heap.size := by obtain ⟨m, hm⟩ := h8; exact DataW.trod_lt m _ _ _ hm
  obtain ⟨a9, rfl, rfl, rfl, w9⟩ := open_int Try.underlying3 (hval 9 3 v9 rfl rfl) h9
  clear hA0 hval0
  refine (walk (rd_bools h0) (rd_bools h1) (rd_bools h2) (rd_bools h3) (rd_bools h4) (rd_bools h5) (rd_bools h6) (rd_bools h7) (rd_bools h8)).mono fun e W' ⟨he, bel⟩ => ?_
  subst he
  exact ⟨_, rfl, _, _, _, [], _, [], hW', trodAll_mk1 (shut_bool Try.underlying4 _), (trodAll_cons_mk (Below.trod laidOut (by kernel_rfl) (of_decide_eq_true (by kernel_rfl)) h0 bel lt0) (trodAll_cons_mk (Below.trod laidOut (by kernel_rfl) (of_decide_eq_true (by kernel_rfl)) h1 bel lt1) (trodAll_cons_mk (Below.trod laidOut (by kernel_rfl) (of_decide_eq_true (by kernel_rfl)) h2 bel lt2) (trodAll_cons_mk (Below.trod laidOut (by kernel_rfl) (of_decide_eq_true (by kernel_rfl)) h3 bel lt3) (trodAll_cons_mk (Below.trod laidOut (by kernel_rfl) (of_decide_eq_true (by kernel_rfl)) h4 bel lt4) (trodAll_cons_mk (Below.trod laidOut (by kernel_rfl) (of_decide_eq_true (by kernel_rfl)) h5 bel lt5) (trodAll_cons_mk (Below.trod laidOut (by kernel_rfl) (of_decide_eq_true (by kernel_rfl)) h6 bel lt6) (trodAll_cons_mk (Below.trod laidOut (by kernel_rfl) (of_decide_eq_true (by kernel_rfl)) h7 bel lt7) (trodAll_cons_mk (Below.trod laidOut (by kernel_rfl) (of_decide_eq_true (by kernel_rfl)) h8 bel lt8) (trodAll_cons_mk (shut_int Try.underlying3 w9) trodAll_mk0)))))))))), rfl, bel.frame _, fun h => by cases h⟩

theorem over : Rows.fnBranchCloneSharesEligibleOnlyRow.holds Try.pinned (OpenSpec.ofChange Rows.fnBranchCloneSharesEligibleOnlySpec) :=
  OpenClaim.holds_of_wide 4 Try.f4 rfl rfl rfl rfl rfl rfl rfl ⟨rfl, rfl, rfl, rfl, rfl⟩ rfl rfl rfl rfl rfl (by kernel_rfl) Try.func4 (by kernel_rfl)
    (of_decide_eq_true (by kernel_rfl)) (by unfold Func.isWrapper; first | (rw [if_pos (by decide +kernel)]; kernel_rfl) | (rw [if_neg (by decide +kernel)]; exact ⟨rfl, rfl⟩))
    (fun os started H enc _ => lifted os started H enc)

/-- THE STATEMENT -/
theorem proved : Rows.FnBranchCloneSharesEligibleOnlySaid := over
#print axioms proved
end Go.Proofs.Qxb6616076a.fnBranchCloneSharesEligibleOnly
