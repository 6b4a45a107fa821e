/-
  SEAT b6616076a. FnLoneWorkFinishRecordsAndAdvances (5): the early ways.
-/
import Derived.Test.Qxb6616076aLoneFns
namespace Go.Proofs.Qxb6616076a
open Go Go.RowKit
set_option linter.unusedVariables false
set_option linter.unusedSimpArgs false

set_option maxRecDepth 100000 in
set_option maxHeartbeats 4000000 in
theorem early5 {w : World} {base next least i v : Int} {halt found : Bool} {a1 a2 : Option Addr} {k1 c1 k2 c2 : Nat} (hb : k1 ≤ 9223372036854775807 ∧ k2 ≤ 9223372036854775807)
    (hno : 65536 < k1 ∨ 65536 < k2 ∨ k2 ≠ k1 ∨ i < 0 ∨ (k1 : Int) ≤ i ∨ next < 0 ∨ least < next ∨ (k1 : Int) < least) :
    Calls Try.prog 5 #[.int .i64 base, .int .i64 next, .slice a1 k1 c1, .slice a2 k2 c2, .int .i64 least, .bool halt, .int .i64 i, .int .i64 v, .bool found] w fun e w' => e = .returned (.bool true) ∧ w = w' := by
  have HB : Hid _ := hb
  clear hb
  go_enter Try.func5, Try.ntmps5
  go_wp2_with fail
  refine (bytes17 HB.out.1 HB.out.2).mono ?_
  rintro e w' ⟨⟨b, rfl⟩, rfl⟩
  cases b with
  | false =>
    go_wp2
    go_ret
    exact ⟨rfl, rfl⟩
  | true =>
    go_wp2_with fail
    all_goals first | (go_ret; exact ⟨rfl, rfl⟩) | (exfalso; simp at *; omega)

#print axioms early5
end Go.Proofs.Qxb6616076a
