/-
  No cell of these rows narrows 'for every input' (looked for: loops, veiled, ifaces, maps, wideKeys, modest, calm, conditions, laid).
  DERIVED. THE GIVEN ROWS OF THIS SEAT. 7 by the template 'for every input the law returns true; each argument reads behind the call as it read before'; 0 by the template 'total and deterministic' (their statements: Qxb6601757aTotals.lean).
  GIVEN WITH THE SEED: the statements are not yours to turn. If you find one false, say at which input.
  Laid BY PROGRAM, IN A SANDBOX (cutbox-rows.mjs): the forced cells as the released guide's own fill.sh prints them over the translation 39b22e50f1fea9c1… (all of the seat's roots in one cut). By AI agents, Wed Nov 11 2026. No macro, syntax, notation, axiom, sorry.
-/
import Derived.Test.Qxb6601757aChecked
import GoSem.Claim
import GoSem.ClaimJoined
import GoSem.ClaimMapViews
import Derived.JoinedTies
import Derived.KernelRfl
namespace Go.Proofs.Qxb6601757a
/- THE CELL 'sum', in the pinned program and in every row, IS THE sha256 OF THE DUMP (.gsa) THAT Qxb6601757aProg.lean LOADS. Nothing in Lean hashes anything: it is a label: what it is worth is what the hold of that sum in a sandbox is worth. -/
noncomputable def Try.pinned : Pinned := { name := "qxb6601757a", sum := "39b22e50f1fea9c19fb6e377007234226adddcaee08f645c8d7cee51ba68acbd", checked := Try.checked }
namespace Rows
def none {H : Type} : Left H := { results := [], args := [] }

/-- 'zzlaws_internal_versions_layout_b1.FnAppendKeyPrefixAppendsEscapedKey': WHATEVER THE INPUT: true; the input reads as it did. -/
def fnAppendKeyPrefixAppendsEscapedKeySpec : ChangeSpec := { name := "fnAppendKeyPrefixAppendsEscapedKey", fn := fun _ => fun
  | [d1, d2] => { results := [.lit (.bool true)], args := [d1, d2] }
  | _ => none }
def fnAppendKeyPrefixAppendsEscapedKeyRow : OpenClaim := { program := "qxb6601757a", sum := "39b22e50f1fea9c19fb6e377007234226adddcaee08f645c8d7cee51ba68acbd", func := "example.com/tidemark/tidemark/zzlaws_internal_versions_layout_b1.FnAppendKeyPrefixAppendsEscapedKey", spec := "fnAppendKeyPrefixAppendsEscapedKey", apart := false }
def FnAppendKeyPrefixAppendsEscapedKeySaid : Prop := fnAppendKeyPrefixAppendsEscapedKeyRow.holds Try.pinned (OpenSpec.ofChange fnAppendKeyPrefixAppendsEscapedKeySpec)

/-- ITS FALSE NEIGHBOUR: 'it returns false'. Refute it at one input. -/
def fnAppendKeyPrefixAppendsEscapedKeyWrong : ChangeSpec := { name := "fnAppendKeyPrefixAppendsEscapedKey", fn := fun _ => fun
  | [d1, d2] => { results := [.lit (.bool false)], args := [d1, d2] }
  | _ => none }
def FnAppendKeyPrefixAppendsEscapedKeyWrongFalsely : Prop := fnAppendKeyPrefixAppendsEscapedKeyRow.holds Try.pinned (OpenSpec.ofChange fnAppendKeyPrefixAppendsEscapedKeyWrong)

/-- 'zzlaws_internal_versions_layout_b1.FnAppendKeyPrefixKeepsKeyOrder': WHATEVER THE INPUT: true; the input reads as it did. -/
def fnAppendKeyPrefixKeepsKeyOrderSpec : ChangeSpec := { name := "fnAppendKeyPrefixKeepsKeyOrder", fn := fun _ => fun
  | [d1, d2] => { results := [.lit (.bool true)], args := [d1, d2] }
  | _ => none }
def fnAppendKeyPrefixKeepsKeyOrderRow : OpenClaim := { program := "qxb6601757a", sum := "39b22e50f1fea9c19fb6e377007234226adddcaee08f645c8d7cee51ba68acbd", func := "example.com/tidemark/tidemark/zzlaws_internal_versions_layout_b1.FnAppendKeyPrefixKeepsKeyOrder", spec := "fnAppendKeyPrefixKeepsKeyOrder", apart := false }
def FnAppendKeyPrefixKeepsKeyOrderSaid : Prop := fnAppendKeyPrefixKeepsKeyOrderRow.holds Try.pinned (OpenSpec.ofChange fnAppendKeyPrefixKeepsKeyOrderSpec)

/-- ITS FALSE NEIGHBOUR: 'it returns false'. Refute it at one input. -/
def fnAppendKeyPrefixKeepsKeyOrderWrong : ChangeSpec := { name := "fnAppendKeyPrefixKeepsKeyOrder", fn := fun _ => fun
  | [d1, d2] => { results := [.lit (.bool false)], args := [d1, d2] }
  | _ => none }
def FnAppendKeyPrefixKeepsKeyOrderWrongFalsely : Prop := fnAppendKeyPrefixKeepsKeyOrderRow.holds Try.pinned (OpenSpec.ofChange fnAppendKeyPrefixKeepsKeyOrderWrong)

/-- 'zzlaws_internal_versions_layout_b1.FnAppendKeyPrefixIsPrefixFree': WHATEVER THE INPUT: true; the input reads as it did. -/
def fnAppendKeyPrefixIsPrefixFreeSpec : ChangeSpec := { name := "fnAppendKeyPrefixIsPrefixFree", fn := fun _ => fun
  | [d1, d2] => { results := [.lit (.bool true)], args := [d1, d2] }
  | _ => none }
def fnAppendKeyPrefixIsPrefixFreeRow : OpenClaim := { program := "qxb6601757a", sum := "39b22e50f1fea9c19fb6e377007234226adddcaee08f645c8d7cee51ba68acbd", func := "example.com/tidemark/tidemark/zzlaws_internal_versions_layout_b1.FnAppendKeyPrefixIsPrefixFree", spec := "fnAppendKeyPrefixIsPrefixFree", apart := false }
def FnAppendKeyPrefixIsPrefixFreeSaid : Prop := fnAppendKeyPrefixIsPrefixFreeRow.holds Try.pinned (OpenSpec.ofChange fnAppendKeyPrefixIsPrefixFreeSpec)

/-- ITS FALSE NEIGHBOUR: 'it returns false'. Refute it at one input. -/
def fnAppendKeyPrefixIsPrefixFreeWrong : ChangeSpec := { name := "fnAppendKeyPrefixIsPrefixFree", fn := fun _ => fun
  | [d1, d2] => { results := [.lit (.bool false)], args := [d1, d2] }
  | _ => none }
def FnAppendKeyPrefixIsPrefixFreeWrongFalsely : Prop := fnAppendKeyPrefixIsPrefixFreeRow.holds Try.pinned (OpenSpec.ofChange fnAppendKeyPrefixIsPrefixFreeWrong)

/-- 'zzlaws_internal_versions_layout_b1.FnBoundsEndsAreExact': WHATEVER THE INPUT: true; the input reads as it did. -/
def fnBoundsEndsAreExactSpec : ChangeSpec := { name := "fnBoundsEndsAreExact", fn := fun _ => fun
  | [d1, d2] => { results := [.lit (.bool true)], args := [d1, d2] }
  | _ => none }
def fnBoundsEndsAreExactRow : OpenClaim := { program := "qxb6601757a", sum := "39b22e50f1fea9c19fb6e377007234226adddcaee08f645c8d7cee51ba68acbd", func := "example.com/tidemark/tidemark/zzlaws_internal_versions_layout_b1.FnBoundsEndsAreExact", spec := "fnBoundsEndsAreExact", apart := false }
def FnBoundsEndsAreExactSaid : Prop := fnBoundsEndsAreExactRow.holds Try.pinned (OpenSpec.ofChange fnBoundsEndsAreExactSpec)

/-- ITS FALSE NEIGHBOUR: 'it returns false'. Refute it at one input. -/
def fnBoundsEndsAreExactWrong : ChangeSpec := { name := "fnBoundsEndsAreExact", fn := fun _ => fun
  | [d1, d2] => { results := [.lit (.bool false)], args := [d1, d2] }
  | _ => none }
def FnBoundsEndsAreExactWrongFalsely : Prop := fnBoundsEndsAreExactRow.holds Try.pinned (OpenSpec.ofChange fnBoundsEndsAreExactWrong)

/-- 'zzlaws_internal_versions_layout_b1.FnBoundsHoldExactlyTheRange': WHATEVER THE INPUT: true; the input reads as it did. -/
def fnBoundsHoldExactlyTheRangeSpec : ChangeSpec := { name := "fnBoundsHoldExactlyTheRange", fn := fun _ => fun
  | [d1, d2, d3, d4] => { results := [.lit (.bool true)], args := [d1, d2, d3, d4] }
  | _ => none }
def fnBoundsHoldExactlyTheRangeRow : OpenClaim := { program := "qxb6601757a", sum := "39b22e50f1fea9c19fb6e377007234226adddcaee08f645c8d7cee51ba68acbd", func := "example.com/tidemark/tidemark/zzlaws_internal_versions_layout_b1.FnBoundsHoldExactlyTheRange", spec := "fnBoundsHoldExactlyTheRange", apart := false }
def FnBoundsHoldExactlyTheRangeSaid : Prop := fnBoundsHoldExactlyTheRangeRow.holds Try.pinned (OpenSpec.ofChange fnBoundsHoldExactlyTheRangeSpec)

/-- ITS FALSE NEIGHBOUR: 'it returns false'. Refute it at one input. -/
def fnBoundsHoldExactlyTheRangeWrong : ChangeSpec := { name := "fnBoundsHoldExactlyTheRange", fn := fun _ => fun
  | [d1, d2, d3, d4] => { results := [.lit (.bool false)], args := [d1, d2, d3, d4] }
  | _ => none }
def FnBoundsHoldExactlyTheRangeWrongFalsely : Prop := fnBoundsHoldExactlyTheRangeRow.holds Try.pinned (OpenSpec.ofChange fnBoundsHoldExactlyTheRangeWrong)

/-- 'zzlaws_internal_versions_layout_b1.FnEscapedKeyInvertsAppendKeyPrefix': WHATEVER THE INPUT: true; the input reads as it did. -/
def fnEscapedKeyInvertsAppendKeyPrefixSpec : ChangeSpec := { name := "fnEscapedKeyInvertsAppendKeyPrefix", fn := fun _ => fun
  | [d] => { results := [.lit (.bool true)], args := [d] }
  | _ => none }
def fnEscapedKeyInvertsAppendKeyPrefixRow : OpenClaim := { program := "qxb6601757a", sum := "39b22e50f1fea9c19fb6e377007234226adddcaee08f645c8d7cee51ba68acbd", func := "example.com/tidemark/tidemark/zzlaws_internal_versions_layout_b1.FnEscapedKeyInvertsAppendKeyPrefix", spec := "fnEscapedKeyInvertsAppendKeyPrefix", apart := false }
def FnEscapedKeyInvertsAppendKeyPrefixSaid : Prop := fnEscapedKeyInvertsAppendKeyPrefixRow.holds Try.pinned (OpenSpec.ofChange fnEscapedKeyInvertsAppendKeyPrefixSpec)

/-- ITS FALSE NEIGHBOUR: 'it returns false'. Refute it at one input. -/
def fnEscapedKeyInvertsAppendKeyPrefixWrong : ChangeSpec := { name := "fnEscapedKeyInvertsAppendKeyPrefix", fn := fun _ => fun
  | [d] => { results := [.lit (.bool false)], args := [d] }
  | _ => none }
def FnEscapedKeyInvertsAppendKeyPrefixWrongFalsely : Prop := fnEscapedKeyInvertsAppendKeyPrefixRow.holds Try.pinned (OpenSpec.ofChange fnEscapedKeyInvertsAppendKeyPrefixWrong)

/-- 'zzlaws_internal_versions_layout_b1.FnEscapedKeyReadsBounds': WHATEVER THE INPUT: true; the input reads as it did. -/
def fnEscapedKeyReadsBoundsSpec : ChangeSpec := { name := "fnEscapedKeyReadsBounds", fn := fun _ => fun
  | [d1, d2] => { results := [.lit (.bool true)], args := [d1, d2] }
  | _ => none }
def fnEscapedKeyReadsBoundsRow : OpenClaim := { program := "qxb6601757a", sum := "39b22e50f1fea9c19fb6e377007234226adddcaee08f645c8d7cee51ba68acbd", func := "example.com/tidemark/tidemark/zzlaws_internal_versions_layout_b1.FnEscapedKeyReadsBounds", spec := "fnEscapedKeyReadsBounds", apart := false }
def FnEscapedKeyReadsBoundsSaid : Prop := fnEscapedKeyReadsBoundsRow.holds Try.pinned (OpenSpec.ofChange fnEscapedKeyReadsBoundsSpec)

/-- ITS FALSE NEIGHBOUR: 'it returns false'. Refute it at one input. -/
def fnEscapedKeyReadsBoundsWrong : ChangeSpec := { name := "fnEscapedKeyReadsBounds", fn := fun _ => fun
  | [d1, d2] => { results := [.lit (.bool false)], args := [d1, d2] }
  | _ => none }
def FnEscapedKeyReadsBoundsWrongFalsely : Prop := fnEscapedKeyReadsBoundsRow.holds Try.pinned (OpenSpec.ofChange fnEscapedKeyReadsBoundsWrong)

end Rows
end Go.Proofs.Qxb6601757a
