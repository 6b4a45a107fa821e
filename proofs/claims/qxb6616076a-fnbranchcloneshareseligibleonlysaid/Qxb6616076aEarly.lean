/-
  SEAT b6616076a. The early ways of FnBranchCloneOfCloneIsOwnCopy (3) and FnBranchCloneSharesEligibleOnly (4).
-/
import Derived.Test.Qxb6616076aFields
namespace Go.Proofs.Qxb6616076a
open Go Go.RowKit

set_option maxRecDepth 100000 in
set_option maxHeartbeats 2000000 in
theorem early3 {w : World} {a1 a2 a3 a4 a5 a6 a7 a8 a9 : Option Addr} {k1 c1 k2 c2 k3 c3 k4 c4 k5 c5 k6 c6 k7 c7 k8 c8 k9 c9 : Nat} {left : Int} (hb : k1 ≤ 9223372036854775807 ∧ k2 ≤ 9223372036854775807 ∧ k3 ≤ 9223372036854775807 ∧ k4 ≤ 9223372036854775807 ∧ k5 ≤ 9223372036854775807 ∧ k6 ≤ 9223372036854775807 ∧ k7 ≤ 9223372036854775807 ∧ k8 ≤ 9223372036854775807 ∧ k9 ≤ 9223372036854775807)
    (hno : 65536 < k1 ∨ 65536 < k2 ∨ 65536 < k3 ∨ 65536 < k4 ∨ 65536 < k5 ∨ 65536 < k6 ∨ 65536 < k7 ∨ 65536 < k8 ∨ 65536 < k9 ∨ k1 ≠ k9 ∨ k2 ≠ k9 ∨ k3 ≠ k9 ∨ k4 ≠ k9 ∨ k5 ≠ k9 ∨ k6 ≠ k9 ∨ k7 ≠ k9 ∨ k8 ≠ k9) :
    Calls Try.prog 3 #[.slice a1 k1 c1, .slice a2 k2 c2, .slice a3 k3 c3, .slice a4 k4 c4, .slice a5 k5 c5, .slice a6 k6 c6, .slice a7 k7 c7, .slice a8 k8 c8, .slice a9 k9 c9, .int .i64 left] w fun e w' => e = .returned (.bool true) ∧ w' = w := by
  have HB : Hid _ := hb
  clear hb
  go_enter Try.func3, Try.ntmps3
  go_wp2_with fail
  refine (bytes7 HB.out).mono ?_
  rintro e w' ⟨⟨b, rfl⟩, rfl⟩
  cases b with
  | false =>
    go_wp2
    go_ret
    exact ⟨rfl, rfl⟩
  | true =>
    go_wp2_with fail
    all_goals first | (go_ret; exact ⟨rfl, rfl⟩) | (exfalso; simp at *; omega)

set_option maxRecDepth 100000 in
set_option maxHeartbeats 2000000 in
theorem early4 {w : World} {a1 a2 a3 a4 a5 a6 a7 a8 a9 : Option Addr} {k1 c1 k2 c2 k3 c3 k4 c4 k5 c5 k6 c6 k7 c7 k8 c8 k9 c9 : Nat} {left : Int} (hb : k1 ≤ 9223372036854775807 ∧ k2 ≤ 9223372036854775807 ∧ k3 ≤ 9223372036854775807 ∧ k4 ≤ 9223372036854775807 ∧ k5 ≤ 9223372036854775807 ∧ k6 ≤ 9223372036854775807 ∧ k7 ≤ 9223372036854775807 ∧ k8 ≤ 9223372036854775807 ∧ k9 ≤ 9223372036854775807)
    (hno : 65536 < k1 ∨ 65536 < k2 ∨ 65536 < k3 ∨ 65536 < k4 ∨ 65536 < k5 ∨ 65536 < k6 ∨ 65536 < k7 ∨ 65536 < k8 ∨ 65536 < k9 ∨ k1 ≠ k9 ∨ k2 ≠ k9 ∨ k3 ≠ k9 ∨ k4 ≠ k9 ∨ k5 ≠ k9 ∨ k6 ≠ k9 ∨ k7 ≠ k9 ∨ k8 ≠ k9) :
    Calls Try.prog 4 #[.slice a1 k1 c1, .slice a2 k2 c2, .slice a3 k3 c3, .slice a4 k4 c4, .slice a5 k5 c5, .slice a6 k6 c6, .slice a7 k7 c7, .slice a8 k8 c8, .slice a9 k9 c9, .int .i64 left] w fun e w' => e = .returned (.bool true) ∧ w' = w := by
  have HB : Hid _ := hb
  clear hb
  go_enter Try.func4, Try.ntmps4
  go_wp2_with fail
  refine (bytes14 HB.out).mono ?_
  rintro e w' ⟨⟨b, rfl⟩, rfl⟩
  cases b with
  | false =>
    go_wp2
    go_ret
    exact ⟨rfl, rfl⟩
  | true =>
    go_wp2_with fail
    all_goals first | (go_ret; exact ⟨rfl, rfl⟩) | (exfalso; simp at *; omega)

#print axioms early3
#print axioms early4
end Go.Proofs.Qxb6616076a
