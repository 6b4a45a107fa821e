/-
  SEAT b6616170a. Law 7: slices of slices.
-/
import Derived.Test.Qxb6616170aEarly7
namespace Go.Proofs.Qxb6616170a
open Go Go.RowKit
set_option linter.unusedVariables false

theorem pre_run (a : Option Addr) (n c : Nat) (z : Int) (k : Nat) (hz : z = (k : Int)) (hk : k ≤ c) (w : World) : (Instr.slice 22 (.slice a n c) none (some (.int .i64 z)) none).run Try.prog w = .ok (.slice a k c) w := by
  subst hz
  rw [run_slice_h w 22 a n c Try.underlying22 .i64 (k : Int) (by omega) (by omega)]
  have e : (sizeOf (Try.prog.elem 22)).run Try.prog w = .ok 1 w := Try.sizeOf5 w
  try rw [e]
  simp [sliced, Result.andThen, Addr.add]
theorem suf_run (g : Nat) (n c : Nat) (k : Nat) (hk : k ≤ n) (hc : n < c ∨ k < n) (hnc : n ≤ c) (z : Int) (hz : z = (k : Int)) (w : World) : (Instr.slice 22 (.slice (some ⟨g, 0, none⟩) n c) (some (.int .i64 z)) none none).run Try.prog w = .ok (.slice (some ⟨g, k, none⟩) (n - k) (c - k)) w := by
  subst hz
  rw [run_slice_l w 22 _ n c Try.underlying22 .i64 (k : Int) (by omega) (by omega)]
  have e : (sizeOf (Try.prog.elem 22)).run Try.prog w = .ok 1 w := Try.sizeOf5 w
  rw [e]
  have : ¬ c = k := by omega
  by_cases h0 : k = 0
  · subst h0; simp [sliced, Result.andThen, this, Addr.add]
  · simp [sliced, Result.andThen, this, Addr.add, h0]
theorem ArrText.two {segs : List (List Int)} {t : List Int} (h : ArrText segs t) : 2 ≤ t.length := by
  obtain ⟨ws0, B, rfl, _⟩ := h
  simp
  omega
end Go.Proofs.Qxb6616170a
