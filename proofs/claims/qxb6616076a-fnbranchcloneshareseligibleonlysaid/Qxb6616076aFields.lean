/-
  SEAT b6616076a. ZZnewBranch (9), ZZbranchFields (11), zzBranchReads (12), zzBytes (7, 14).
-/
import Derived.Test.Qxb6616076aSame
import Derived.Deep.RegionHeld3
namespace Go.Proofs.Qxb6616076a
open Go Go.RowKit

set_option maxHeartbeats 1000000 in
theorem new_branch {w : World} {a1 a2 a3 a4 a5 a6 a7 a8 a9 : Option Addr} {k1 c1 k2 c2 k3 c3 k4 c4 k5 c5 k6 c6 k7 c7 k8 c8 k9 c9 : Nat} {left : Int} :
    Calls Try.prog 9 #[.slice a1 k1 c1, .slice a2 k2 c2, .slice a3 k3 c3, .slice a4 k4 c4, .slice a5 k5 c5, .slice a6 k6 c6, .slice a7 k7 c7, .slice a8 k8 c8, .slice a9 k9 c9, .int .i64 left] w fun e w' => e = .returned (.agg #[.slice a1 k1 c1, .slice a2 k2 c2, .slice a3 k3 c3, .slice a4 k4 c4, .slice a5 k5 c5, .slice a6 k6 c6, .slice a7 k7 c7, .slice a8 k8 c8, .slice a9 k9 c9, .int .i64 left]) ∧ Below w.heap.size w w' := by
  go_enter Try.func9, Try.ntmps9
  go_wp2
  exact bodyPost_ret (v := .agg #[.slice a1 k1 c1, .slice a2 k2 c2, .slice a3 k3 c3, .slice a4 k4 c4, .slice a5 k5 c5, .slice a6 k6 c6, .slice a7 k7 c7, .slice a8 k8 c8, .slice a9 k9 c9, .int .i64 left]) (by simp [results, Try.results9, go_sem]) rfl ⟨rfl, (Below.refl _ _).alloc (Nat.le_refl _) _⟩

set_option maxHeartbeats 1000000 in
theorem branch_fields {w : World} {a1 a2 a3 a4 a5 a6 a7 a8 a9 : Option Addr} {k1 c1 k2 c2 k3 c3 k4 c4 k5 c5 k6 c6 k7 c7 k8 c8 k9 c9 : Nat} {left : Int} :
    Calls Try.prog 11 #[.agg #[.slice a1 k1 c1, .slice a2 k2 c2, .slice a3 k3 c3, .slice a4 k4 c4, .slice a5 k5 c5, .slice a6 k6 c6, .slice a7 k7 c7, .slice a8 k8 c8, .slice a9 k9 c9, .int .i64 left]] w fun e w' => e = .returned (.tuple #[.slice a1 k1 c1, .slice a2 k2 c2, .slice a3 k3 c3, .slice a4 k4 c4, .slice a5 k5 c5, .slice a6 k6 c6, .slice a7 k7 c7, .slice a8 k8 c8, .slice a9 k9 c9, .int .i64 left]) ∧ Below w.heap.size w w' := by
  go_enter Try.func11, Try.ntmps11
  go_wp2
  go_quiet (fail)
  go_wp2
  exact bodyPost_ret (v := .tuple #[.slice a1 k1 c1, .slice a2 k2 c2, .slice a3 k3 c3, .slice a4 k4 c4, .slice a5 k5 c5, .slice a6 k6 c6, .slice a7 k7 c7, .slice a8 k8 c8, .slice a9 k9 c9, .int .i64 left]) (by simp [results, Try.results11, go_sem]) rfl ⟨rfl, below_drewN ((Below.refl _ _).alloc (Nat.le_refl _) _) _⟩

set_option maxHeartbeats 1000000 in
theorem bytes7 {w : World} {a1 a2 a3 a4 a5 a6 a7 a8 a9 : Option Addr} {k1 c1 k2 c2 k3 c3 k4 c4 k5 c5 k6 c6 k7 c7 k8 c8 k9 c9 : Nat} {left : Int} (hb : k1 ≤ 9223372036854775807 ∧ k2 ≤ 9223372036854775807 ∧ k3 ≤ 9223372036854775807 ∧ k4 ≤ 9223372036854775807 ∧ k5 ≤ 9223372036854775807 ∧ k6 ≤ 9223372036854775807 ∧ k7 ≤ 9223372036854775807 ∧ k8 ≤ 9223372036854775807 ∧ k9 ≤ 9223372036854775807) :
    Calls Try.prog 7 #[.slice a1 k1 c1, .slice a2 k2 c2, .slice a3 k3 c3, .slice a4 k4 c4, .slice a5 k5 c5, .slice a6 k6 c6, .slice a7 k7 c7, .slice a8 k8 c8, .slice a9 k9 c9, .int .i64 left] w fun e w' => (∃ b, e = .returned (.bool b)) ∧ w' = w := by
  obtain ⟨e1, e2, e3, e4, e5, e6, e7, e8, e9⟩ := hb
  go_enter Try.func7, Try.ntmps7
  go_wp2
  all_goals (go_ret; exact ⟨⟨_, rfl⟩, rfl⟩)

set_option maxHeartbeats 1000000 in
theorem bytes14 {w : World} {a1 a2 a3 a4 a5 a6 a7 a8 a9 : Option Addr} {k1 c1 k2 c2 k3 c3 k4 c4 k5 c5 k6 c6 k7 c7 k8 c8 k9 c9 : Nat} {left : Int} (hb : k1 ≤ 9223372036854775807 ∧ k2 ≤ 9223372036854775807 ∧ k3 ≤ 9223372036854775807 ∧ k4 ≤ 9223372036854775807 ∧ k5 ≤ 9223372036854775807 ∧ k6 ≤ 9223372036854775807 ∧ k7 ≤ 9223372036854775807 ∧ k8 ≤ 9223372036854775807 ∧ k9 ≤ 9223372036854775807) :
    Calls Try.prog 14 #[.slice a1 k1 c1, .slice a2 k2 c2, .slice a3 k3 c3, .slice a4 k4 c4, .slice a5 k5 c5, .slice a6 k6 c6, .slice a7 k7 c7, .slice a8 k8 c8, .slice a9 k9 c9, .int .i64 left] w fun e w' => (∃ b, e = .returned (.bool b)) ∧ w' = w := by
  obtain ⟨e1, e2, e3, e4, e5, e6, e7, e8, e9⟩ := hb
  go_enter Try.func14, Try.ntmps14
  go_wp2
  all_goals (go_ret; exact ⟨⟨_, rfl⟩, rfl⟩)

#print axioms new_branch
#print axioms branch_fields
#print axioms bytes7
end Go.Proofs.Qxb6616076a
