/-
  No cell of these rows narrows 'for every input' (looked for: loops, veiled, ifaces, maps, wideKeys, modest, calm, conditions, laid).
  DERIVED. THE GIVEN ROWS OF THIS SEAT. 5 by the template 'for every input the law returns true; each argument reads behind the call as it read before'; 0 by the template 'total and deterministic' (their statements: Qxb6616170aTotals.lean).
  GIVEN WITH THE SEED: the statements are not yours to turn. If you find one false, say at which input.
  Laid BY PROGRAM, IN A SANDBOX (cutbox-rows.mjs): the forced cells as the released guide's own fill.sh prints them over the translation 4a947f6b0519d39a… (all of the seat's roots in one cut). By AI agents, Wed Nov 11 2026. No macro, syntax, notation, axiom, sorry.
-/
import Derived.Test.Qxb6616170aChecked
import GoSem.Claim
import GoSem.ClaimJoined
import GoSem.ClaimMapViews
import Derived.JoinedTies
import Derived.KernelRfl
namespace Go.Proofs.Qxb6616170a
/- THE CELL 'sum', in the pinned program and in every row, IS THE sha256 OF THE DUMP (.gsa) THAT Qxb6616170aProg.lean LOADS. Nothing in Lean hashes anything: it is a label: what it is worth is what the hold of that sum in a sandbox is worth. -/
noncomputable def Try.pinned : Pinned := { name := "qxb6616170a", sum := "4a947f6b0519d39a8a97e30f065824671c60a5cfc33465f0c4b7b41593384820", checked := Try.checked }
namespace Rows
def none {H : Type} : Left H := { results := [], args := [] }

/-- 'zzlaws_rowbinary_b1.FnIpv6NullIsSixteenZeroEnum8Nulls': WHATEVER THE INPUT: true; the input reads as it did. -/
def fnIpv6NullIsSixteenZeroEnum8NullsSpec : ChangeSpec := { name := "fnIpv6NullIsSixteenZeroEnum8Nulls", fn := fun _ => fun
  | [d] => { results := [.lit (.bool true)], args := [d] }
  | _ => none }
def fnIpv6NullIsSixteenZeroEnum8NullsRow : OpenClaim := { program := "qxb6616170a", sum := "4a947f6b0519d39a8a97e30f065824671c60a5cfc33465f0c4b7b41593384820", func := "example.com/flumeward/flumeward/zzlaws_rowbinary_b1.FnIpv6NullIsSixteenZeroEnum8Nulls", spec := "fnIpv6NullIsSixteenZeroEnum8Nulls", apart := false }
def FnIpv6NullIsSixteenZeroEnum8NullsSaid : Prop := fnIpv6NullIsSixteenZeroEnum8NullsRow.holds Try.pinned (OpenSpec.ofChange fnIpv6NullIsSixteenZeroEnum8NullsSpec)

/-- ITS FALSE NEIGHBOUR: 'it returns false'. Refute it at one input. -/
def fnIpv6NullIsSixteenZeroEnum8NullsWrong : ChangeSpec := { name := "fnIpv6NullIsSixteenZeroEnum8Nulls", fn := fun _ => fun
  | [d] => { results := [.lit (.bool false)], args := [d] }
  | _ => none }
def FnIpv6NullIsSixteenZeroEnum8NullsWrongFalsely : Prop := fnIpv6NullIsSixteenZeroEnum8NullsRow.holds Try.pinned (OpenSpec.ofChange fnIpv6NullIsSixteenZeroEnum8NullsWrong)

/-- 'zzlaws_rowbinary_b1.FnEnumNullCut': WHATEVER THE INPUT: true; the input reads as it did. -/
def fnEnumNullCutSpec : ChangeSpec := { name := "fnEnumNullCut", fn := fun _ => fun
  | [d1, d2, d3, d4] => { results := [.lit (.bool true)], args := [d1, d2, d3, d4] }
  | _ => none }
def fnEnumNullCutRow : OpenClaim := { program := "qxb6616170a", sum := "4a947f6b0519d39a8a97e30f065824671c60a5cfc33465f0c4b7b41593384820", func := "example.com/flumeward/flumeward/zzlaws_rowbinary_b1.FnEnumNullCut", spec := "fnEnumNullCut", apart := false }
def FnEnumNullCutSaid : Prop := fnEnumNullCutRow.holds Try.pinned (OpenSpec.ofChange fnEnumNullCutSpec)

/-- ITS FALSE NEIGHBOUR: 'it returns false'. Refute it at one input. -/
def fnEnumNullCutWrong : ChangeSpec := { name := "fnEnumNullCut", fn := fun _ => fun
  | [d1, d2, d3, d4] => { results := [.lit (.bool false)], args := [d1, d2, d3, d4] }
  | _ => none }
def FnEnumNullCutWrongFalsely : Prop := fnEnumNullCutRow.holds Try.pinned (OpenSpec.ofChange fnEnumNullCutWrong)

/-- 'zzlaws_rowbinary_b1.FnEnumNullEnum16ExtendsEnum8': WHATEVER THE INPUT: true; the input reads as it did. -/
def fnEnumNullEnum16ExtendsEnum8Spec : ChangeSpec := { name := "fnEnumNullEnum16ExtendsEnum8", fn := fun _ => fun
  | [d1, d2] => { results := [.lit (.bool true)], args := [d1, d2] }
  | _ => none }
def fnEnumNullEnum16ExtendsEnum8Row : OpenClaim := { program := "qxb6616170a", sum := "4a947f6b0519d39a8a97e30f065824671c60a5cfc33465f0c4b7b41593384820", func := "example.com/flumeward/flumeward/zzlaws_rowbinary_b1.FnEnumNullEnum16ExtendsEnum8", spec := "fnEnumNullEnum16ExtendsEnum8", apart := false }
def FnEnumNullEnum16ExtendsEnum8Said : Prop := fnEnumNullEnum16ExtendsEnum8Row.holds Try.pinned (OpenSpec.ofChange fnEnumNullEnum16ExtendsEnum8Spec)

/-- ITS FALSE NEIGHBOUR: 'it returns false'. Refute it at one input. -/
def fnEnumNullEnum16ExtendsEnum8Wrong : ChangeSpec := { name := "fnEnumNullEnum16ExtendsEnum8", fn := fun _ => fun
  | [d1, d2] => { results := [.lit (.bool false)], args := [d1, d2] }
  | _ => none }
def FnEnumNullEnum16ExtendsEnum8WrongFalsely : Prop := fnEnumNullEnum16ExtendsEnum8Row.holds Try.pinned (OpenSpec.ofChange fnEnumNullEnum16ExtendsEnum8Wrong)

/-- 'zzlaws_rowbinary_b1.FnAppendCountedIsCountThenItems': WHATEVER THE INPUT: true; the input reads as it did. -/
def fnAppendCountedIsCountThenItemsSpec : ChangeSpec := { name := "fnAppendCountedIsCountThenItems", fn := fun _ => fun
  | [d1, d2] => { results := [.lit (.bool true)], args := [d1, d2] }
  | _ => none }
def fnAppendCountedIsCountThenItemsRow : OpenClaim := { program := "qxb6616170a", sum := "4a947f6b0519d39a8a97e30f065824671c60a5cfc33465f0c4b7b41593384820", func := "example.com/flumeward/flumeward/zzlaws_rowbinary_b1.FnAppendCountedIsCountThenItems", spec := "fnAppendCountedIsCountThenItems", unfollowed := true, recurses := true, apart := false }
def FnAppendCountedIsCountThenItemsSaid : Prop := fnAppendCountedIsCountThenItemsRow.holds Try.pinned (OpenSpec.ofChange fnAppendCountedIsCountThenItemsSpec)

/-- ITS FALSE NEIGHBOUR: 'it returns false'. Refute it at one input. -/
def fnAppendCountedIsCountThenItemsWrong : ChangeSpec := { name := "fnAppendCountedIsCountThenItems", fn := fun _ => fun
  | [d1, d2] => { results := [.lit (.bool false)], args := [d1, d2] }
  | _ => none }
def FnAppendCountedIsCountThenItemsWrongFalsely : Prop := fnAppendCountedIsCountThenItemsRow.holds Try.pinned (OpenSpec.ofChange fnAppendCountedIsCountThenItemsWrong)

/-- 'zzlaws_rowbinary_b1.FnAppendCountedJoinedArrays': WHATEVER THE INPUT: true; the input reads as it did. -/
def fnAppendCountedJoinedArraysSpec : ChangeSpec := { name := "fnAppendCountedJoinedArrays", fn := fun _ => fun
  | [d1, d2] => { results := [.lit (.bool true)], args := [d1, d2] }
  | _ => none }
def fnAppendCountedJoinedArraysRow : OpenClaim := { program := "qxb6616170a", sum := "4a947f6b0519d39a8a97e30f065824671c60a5cfc33465f0c4b7b41593384820", func := "example.com/flumeward/flumeward/zzlaws_rowbinary_b1.FnAppendCountedJoinedArrays", spec := "fnAppendCountedJoinedArrays", unfollowed := true, recurses := true, apart := false }
def FnAppendCountedJoinedArraysSaid : Prop := fnAppendCountedJoinedArraysRow.holds Try.pinned (OpenSpec.ofChange fnAppendCountedJoinedArraysSpec)

/-- ITS FALSE NEIGHBOUR: 'it returns false'. Refute it at one input. -/
def fnAppendCountedJoinedArraysWrong : ChangeSpec := { name := "fnAppendCountedJoinedArrays", fn := fun _ => fun
  | [d1, d2] => { results := [.lit (.bool false)], args := [d1, d2] }
  | _ => none }
def FnAppendCountedJoinedArraysWrongFalsely : Prop := fnAppendCountedJoinedArraysRow.holds Try.pinned (OpenSpec.ofChange fnAppendCountedJoinedArraysWrong)

end Rows
end Go.Proofs.Qxb6616170a
