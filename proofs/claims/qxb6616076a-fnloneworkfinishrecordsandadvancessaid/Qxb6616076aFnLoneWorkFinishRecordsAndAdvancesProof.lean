/-
  SEAT b6616076a. 'Rows.FnLoneWorkFinishRecordsAndAdvancesSaid' PROVED.
-/
import Derived.Test.Qxb6616076aOpen
import Derived.Test.Qxb6616076aEarly5
import Derived.Test.Qxb6616076aWalk5
namespace Go.Proofs.Qxb6616076a.fnLoneWorkFinishRecordsAndAdvances
open Go Go.RowKit
open Go.ChangeShapes Go.WideShapes Go.ChangeAt Go.RowKit
set_option linter.unusedVariables false

/-- A []int that came in. -/
theorem rd_ints {H : Type} {enc : TypeId × Value → H} {W : World} {a : Option Addr} {len cap : Nat} {d : DataW H} {p : List MemPlace}
    (h : DataW.Trod enc Try.prog W 0 (fun _ => true) true 36 (.slice a len cap) d p) :
    ∃ nl, ∃ zs : List Int, zs.length = len ∧ len ≤ maxLen ∧ Rd 0 W.heap.size W (.slice a len cap) nl (zs.map (Value.int .i64)) := by
  obtain ⟨fuel, hf⟩ := h
  rcases open_ints Try.underlying36 Try.underlying3 (by kernel_rfl) hf with ⟨hcs, _⟩ | ⟨x, l, c, zs, hcs, _, hl, hm, hz, _, hcell, hwz⟩
  · simp [Value.cells] at hcs
    obtain ⟨rfl, rfl, rfl⟩ := hcs
    exact ⟨true, [], rfl, Nat.zero_le _, none, 0, rfl, rfl, fun _ => ⟨rfl, rfl⟩, .inl rfl⟩
  · simp [Value.cells] at hcs
    obtain ⟨rfl, rfl, rfl⟩ := hcs
    have hz' : zs.length = cap := by simpa using hz
    refine ⟨false, zs.take len, by simp; omega, by omega, some x, cap, by simp; omega, rfl, fun h => by simp at h, ?_⟩
    by_cases h0 : len = 0
    · left; subst h0; rfl
    · right
      have h00 := hcell 0 (by omega)
      obtain ⟨b, off, spot⟩ := x
      have hspot : spot = none := by simpa [Addr.add] using World.cell?_spot h00
      subst hspot
      have hb := lt_of_cell h00
      rw [Addr.add_lit] at hb
      refine ⟨b, off, rfl, Nat.zero_le _, hb, fun j hj => ?_⟩
      have hj' : j < len := by simp at hj; omega
      have := hcell j (by omega)
      rw [Addr.add_lit] at this
      rw [this]
      simp [hj', show j < zs.length by omega, List.getD]

theorem walk {w : World} {base next least i v : Int} {halt found : Bool} {a1 a2 : Option Addr} {k1 c1 k2 c2 : Nat}
    (h1 : ∃ nl, ∃ zs : List Int, zs.length = k1 ∧ k1 ≤ maxLen ∧ Rd 0 w.heap.size w (.slice a1 k1 c1) nl (zs.map (Value.int .i64)))
    (h2 : ∃ nl, ∃ bs : List Bool, bs.length = k2 ∧ k2 ≤ maxLen ∧ Rd 0 w.heap.size w (.slice a2 k2 c2) nl (bs.map Value.bool)) :
    Calls Try.prog 5 #[.int .i64 base, .int .i64 next, .slice a1 k1 c1, .slice a2 k2 c2, .int .i64 least, .bool halt, .int .i64 i, .int .i64 v, .bool found] w fun e w' => e = .returned (.bool true) ∧ Below w.heap.size w w' := by
  obtain ⟨n1, W, e1, m1, r1⟩ := h1
  obtain ⟨n2, D, e2, m2, r2⟩ := h2
  unfold maxLen at *
  by_cases hno : 65536 < k1 ∨ 65536 < k2 ∨ k2 ≠ k1 ∨ i < 0 ∨ (k1 : Int) ≤ i ∨ next < 0 ∨ least < next ∨ (k1 : Int) < least
  · refine (early5 (by omega) hno).mono fun e w' ⟨he, hw⟩ => ⟨he, ?_⟩
    rw [← hw]
    exact Below.refl _ _
  · obtain rfl : k2 = k1 := by omega
    obtain ⟨i, rfl⟩ : ∃ m : Nat, i = m := ⟨i.toNat, by omega⟩
    obtain ⟨next, rfl⟩ : ∃ m : Nat, next = m := ⟨next.toNat, by omega⟩
    obtain ⟨least, rfl⟩ : ∃ m : Nat, least = m := ⟨least.toNat, by omega⟩
    have s1 : ∃ x, a1 = some x := by
      obtain ⟨a, cap, hv, _, h0, _⟩ := r1
      simp only [Value.slice.injEq] at hv
      cases a1 with
      | some x => exact ⟨x, rfl⟩
      | none =>
        have h' := congrArg List.length (h0 hv.1.symm).1
        rw [List.length_map, List.length_nil] at h'
        omega
    have s2 : ∃ x, a2 = some x := by
      obtain ⟨a, cap, hv, _, h0, _⟩ := r2
      simp only [Value.slice.injEq] at hv
      cases a2 with
      | some x => exact ⟨x, rfl⟩
      | none =>
        have h' := congrArg List.length (h0 hv.1.symm).1
        rw [List.length_map, List.length_nil] at h'
        omega
    obtain ⟨x1, rfl⟩ := s1
    obtain ⟨x2, rfl⟩ := s2
    obtain rfl : n1 = false := (Rd.cells (d := 0) r1).2.1
    obtain rfl : n2 = false := (Rd.cells (d := false) r2).2.1
    exact main5 (by omega) (by omega) (by omega) (by omega) e1 e2 r1 r2

set_option maxRecDepth 100000 in
theorem lifted (os : Os) (started : os.Started) (H : Type) (enc : TypeId × Value → H) :
    ReturnsInHanded {} Try.checked os 5 .any (Rows.fnLoneWorkFinishRecordsAndAdvancesSpec.pre6 enc Try.prog Try.f5 Rows.fnLoneWorkFinishRecordsAndAdvancesRow.domain false) (Rows.fnLoneWorkFinishRecordsAndAdvancesSpec.post enc Try.prog Try.f5 false true false false) := by
  refine returnsInHanded_of_change (C := Try.checked) own started (by kernel_rfl) Try.func5
    (ChangeSpec.witness6 (enc := enc) (C := Try.checked) false ⟨#[], #[.int .i64 0, .int .i64 0, .slice none 0 0, .slice none 0 0, .int .i64 0, .bool false, .int .i64 0, .int .i64 0, .bool false], []⟩ 8 (by kernel_rfl) (by kernel_rfl) (by kernel_rfl) (by kernel_rfl)) ?_
  intro W base args ds gs before hval0 hW hcnd _
  have hval : ∀ (j : Nat) t v, Try.f5.params[j]? = some t → args[j]? = some v → Value.okWide Try.prog W .any base t v := hval0
  have hW' := hW
  obtain ⟨p, q, hA0, hV, rfl, hfz, hnd⟩ := hW
  have hA : DataW.TrodAll enc Try.prog W 0 (fun _ => true) true Try.f5.params.toList args.toList ds p := hA0
  rw [Try.params5] at hA hval
  obtain ⟨v0, vs0, d0, ds0, p0, q0, hargs, rfl, rfl, h0, r0⟩ := trodAll_cons hA
  obtain ⟨v1, vs1, d1, ds1, p1, q1, rfl, rfl, rfl, h1, r1⟩ := trodAll_cons r0
  obtain ⟨v2, vs2, d2, ds2, p2, q2, rfl, rfl, rfl, h2, r2⟩ := trodAll_cons r1
  obtain ⟨v3, vs3, d3, ds3, p3, q3, rfl, rfl, rfl, h3, r3⟩ := trodAll_cons r2
  obtain ⟨v4, vs4, d4, ds4, p4, q4, rfl, rfl, rfl, h4, r4⟩ := trodAll_cons r3
  obtain ⟨v5, vs5, d5, ds5, p5, q5, rfl, rfl, rfl, h5, r5⟩ := trodAll_cons r4
  obtain ⟨v6, vs6, d6, ds6, p6, q6, rfl, rfl, rfl, h6, r6⟩ := trodAll_cons r5
  obtain ⟨v7, vs7, d7, ds7, p7, q7, rfl, rfl, rfl, h7, r7⟩ := trodAll_cons r6
  obtain ⟨v8, vs8, d8, ds8, p8, q8, rfl, rfl, rfl, h8, r8⟩ := trodAll_cons r7
  obtain ⟨rfl, rfl, rfl⟩ := trodAll_nil r8
  obtain rfl : args = #[v0, v1, v2, v3, v4, v5, v6, v7, v8] := by cases args; simp_all
  obtain ⟨rfl, rfl⟩ := trodVars_none hV
  obtain ⟨a0, rfl, rfl, rfl, w0⟩ := open_int Try.underlying3 (hval 0 3 v0 rfl rfl) h0
  obtain ⟨a1, rfl, rfl, rfl, w1⟩ := open_int Try.underlying3 (hval 1 3 v1 rfl rfl) h1
  obtain ⟨a2, len2, cap2, rfl⟩ := okWide_slice Try.underlying36 (hval 2 36 v2 rfl rfl)
  have lt2 : ∀ x ∈ p2, x.block < W.heap.size := by obtain ⟨m, hm⟩ := h2; exact DataW.trod_lt m _ _ _ hm
  obtain ⟨a3, len3, cap3, rfl⟩ := okWide_slice Try.underlying22 (hval 3 22 v3 rfl rfl)
  have lt3 : ∀ x ∈ p3, x.block < W.heap.size := by obtain ⟨m, hm⟩ := h3; exact DataW.trod_lt m _ _ _ hm
  obtain ⟨a4, rfl, rfl, rfl, w4⟩ := open_int Try.underlying3 (hval 4 3 v4 rfl rfl) h4
  obtain ⟨a5, rfl, rfl, rfl⟩ := open_bool Try.underlying4 (hval 5 4 v5 rfl rfl) h5
  obtain ⟨a6, rfl, rfl, rfl, w6⟩ := open_int Try.underlying3 (hval 6 3 v6 rfl rfl) h6
  obtain ⟨a7, rfl, rfl, rfl, w7⟩ := open_int Try.underlying3 (hval 7 3 v7 rfl rfl) h7
  obtain ⟨a8, rfl, rfl, rfl⟩ := open_bool Try.underlying4 (hval 8 4 v8 rfl rfl) h8
  clear hA0 hval0
  refine (walk (rd_ints h2) (rd_bools h3)).mono fun e W' ⟨he, bel⟩ => ?_
  subst he
  exact ⟨_, rfl, _, _, _, [], _, [], hW', trodAll_mk1 (shut_bool Try.underlying4 _), (trodAll_cons_mk (shut_int Try.underlying3 w0) (trodAll_cons_mk (shut_int Try.underlying3 w1) (trodAll_cons_mk (Below.trod laidOut (by kernel_rfl) (of_decide_eq_true (by kernel_rfl)) h2 bel lt2) (trodAll_cons_mk (Below.trod laidOut (by kernel_rfl) (of_decide_eq_true (by kernel_rfl)) h3 bel lt3) (trodAll_cons_mk (shut_int Try.underlying3 w4) (trodAll_cons_mk (shut_bool Try.underlying4 a5) (trodAll_cons_mk (shut_int Try.underlying3 w6) (trodAll_cons_mk (shut_int Try.underlying3 w7) (trodAll_cons_mk (shut_bool Try.underlying4 a8) trodAll_mk0))))))))), rfl, bel.frame _, fun h => by cases h⟩

theorem over : Rows.fnLoneWorkFinishRecordsAndAdvancesRow.holds Try.pinned (OpenSpec.ofChange Rows.fnLoneWorkFinishRecordsAndAdvancesSpec) :=
  OpenClaim.holds_of_wide 5 Try.f5 rfl rfl rfl rfl rfl rfl rfl ⟨rfl, rfl, rfl, rfl, rfl⟩ rfl rfl rfl rfl rfl (by kernel_rfl) Try.func5 (by kernel_rfl)
    (of_decide_eq_true (by kernel_rfl)) (by unfold Func.isWrapper; first | (rw [if_pos (by decide +kernel)]; kernel_rfl) | (rw [if_neg (by decide +kernel)]; exact ⟨rfl, rfl⟩))
    (fun os started H enc _ => lifted os started H enc)

/-- THE STATEMENT -/
theorem proved : Rows.FnLoneWorkFinishRecordsAndAdvancesSaid := over
#print axioms proved
end Go.Proofs.Qxb6616076a.fnLoneWorkFinishRecordsAndAdvances
