/-
  SEAT b6616170a. appendZeros (28), ipv6Type.appendNull (21), ZZipv6AppendNull (10).
-/
import Derived.Test.Qxb6616170aEnum
import Derived.Lib.AppendZerosOnto
namespace Go.Proofs.Qxb6616170a
open Go Go.RowKit
set_option linter.unusedVariables false

/-- What the append of sixteen zero bytes leaves. -/
theorem zeros_run {base : Nat} {w : World} {a : Option Addr} {n : Nat} {xs : List Int} (h : OB base w (.slice a n n) xs) (lx : xs.length = n) (hb : base ≤ w.heap.size) (hn : n ≤ 1048576) (ty : TypeId) :
    ∃ q w', (Builtin.append_ #[22, 3] ty #[.slice a n n, .int .i64 16]).run Try.prog w = .ok (.slice (some ⟨w.heap.size, 0, none⟩) (n + 16) q) w' ∧ Below w.heap.size w w' ∧ OB base w' (.slice (some ⟨w.heap.size, 0, none⟩) (n + 16) q) (xs ++ List.replicate 16 0) := by
  obtain ⟨i0, hi, hz0, hz1, hz2⟩ := info_parts info5
  have hold : (Builtin.firstCells i0.size n (.slice a n n)).run Try.prog w.drew = .ok (xs.map byte).toArray w.drew := by
    rw [hz1]
    cases a with
    | none =>
      obtain ⟨_, _, hv, h0, _⟩ := h.rd
      simp only [Value.slice.injEq] at hv
      have : xs = [] := (h0 hv.1.symm).1
      rw [run_firstCells_none, this]
      rfl
    | some x =>
      have hc := (Rd.cells h.rd).2
      exact run_firstCells_some w.drew 1 n x n n (xs.map byte) (by simp [lx]) (fun j v hv => by
        have hj : j < xs.length := by
          have := (List.getElem?_eq_some_iff.1 hv).1
          simpa using this
        have := (hc j hj).2.2
        show w.cell? (x.add j) = some v
        rw [this, ← hv]
        simp [List.getD, hj])
  have hr := Lib.run_append_grow_zeros (P := Try.prog) w 22 3 ty 5 i0 (.int .u8 0) .i64 .i64 Try.underlying22 Try.underlying3 hi hz0 a n n (xs.map byte) hold 16 (by omega) (by omega) (by omega) (by omega) (by rw [hz2]; omega)
    (growslice_fits (by omega) (by rw [hz2]; omega))
  have hge := grownCap_ge w (n + 16) n 5
  refine ⟨_, _, hr, ?_, ?_⟩
  · exact ((Below.refl w.heap.size w).drew).alloc (Nat.le_refl _) _
  · refine ⟨by simp [lx], .inr ⟨w.heap.size, grownCap w (n + 16) n 5, _, by simp [lx], hb, heap_alloc_new w.drew _, ?_, grownCap_le_maxLen w (n + 16) n 5 (by unfold maxLen; omega), ?_, ?_⟩⟩
    · simp [lx]; omega
    · simp [Builtin.zeroCells, Value.cells, lx]; omega
    · simp [Builtin.zeroCells, Value.cells, lx]
      rw [← List.append_assoc]
      exact List.take_left' (by simp [lx])

set_option maxHeartbeats 1000000 in
theorem append_zeros {base : Nat} {w : World} {a : Option Addr} {n : Nat} {xs : List Int} (h : OB base w (.slice a n n) xs) (lx : xs.length = n) (hb : base ≤ w.heap.size) (hn : n ≤ 1048576) :
    Calls Try.prog 28 #[.slice a n n, .int .i64 16] w fun e w' => ∃ g q, e = .returned (.slice (some ⟨g, 0, none⟩) (n + 16) q) ∧ Below base w w' ∧ OB base w' (.slice (some ⟨g, 0, none⟩) (n + 16) q) (xs ++ List.replicate 16 0) := by
  obtain ⟨q, w1, hr, b1, o1⟩ := zeros_run h lx hb hn 22
  have HR : Hid _ := hr
  have HLX : Hid _ := lx
  clear hr lx
  go_enter Try.func28, Try.ntmps28
  go_wp2_with (at_builtin; refine Lib.wpList_append_run _ rfl _ _ _ _ rfl _ _ rfl rfl _ _ HR.out ?_)
  go_wp2
  go_ret
  exact ⟨_, q, rfl, b1.mono hb, o1⟩

set_option maxHeartbeats 1000000 in
theorem ipv6_null {base : Nat} {w : World} {a : Option Addr} {n : Nat} {xs : List Int} (h : OB base w (.slice a n n) xs) (lx : xs.length = n) (hb : base ≤ w.heap.size) (hn : n ≤ 1048576) :
    Calls Try.prog 21 #[.agg #[], .slice a n n] w fun e w' => ∃ g q, e = .returned (.slice (some ⟨g, 0, none⟩) (n + 16) q) ∧ Below base w w' ∧ OB base w' (.slice (some ⟨g, 0, none⟩) (n + 16) q) (xs ++ List.replicate 16 0) := by
  have b1 := (Below.refl base w).alloc hb (.cells #[] 40)
  have o1 := OB.keep h ((Below.refl w.heap.size w).alloc (Nat.le_refl _) (.cells #[] 40)) (Nat.le_refl _)
  have HLX : Hid _ := lx
  clear lx
  go_enter Try.func21, Try.ntmps21
  go_wp2_with fail
  refine (append_zeros o1 HLX.out (by simp; omega) hn).mono ?_
  rintro e w1 ⟨g, q, rfl, b2, o2⟩
  go_wp2
  go_ret
  exact ⟨g, q, rfl, b1.trans b2, o2⟩

set_option maxHeartbeats 1000000 in
theorem zz_ipv6_null {base : Nat} {w : World} {a : Option Addr} {n : Nat} {xs : List Int} (h : OB base w (.slice a n n) xs) (lx : xs.length = n) (hb : base ≤ w.heap.size) (hn : n ≤ 1048576) :
    Calls Try.prog 10 #[.slice a n n] w fun e w' => ∃ g q, e = .returned (.slice (some ⟨g, 0, none⟩) (n + 16) q) ∧ Below base w w' ∧ OB base w' (.slice (some ⟨g, 0, none⟩) (n + 16) q) (xs ++ List.replicate 16 0) := by
  have HLX : Hid _ := lx
  clear lx
  go_enter Try.func10, Try.ntmps10
  go_wp2_with fail
  refine (ipv6_null h HLX.out hb hn).mono ?_
  rintro e w1 ⟨g, q, rfl, b2, o2⟩
  go_wp2
  go_ret
  exact ⟨g, q, rfl, b2, o2⟩
#print axioms zz_ipv6_null
end Go.Proofs.Qxb6616170a
