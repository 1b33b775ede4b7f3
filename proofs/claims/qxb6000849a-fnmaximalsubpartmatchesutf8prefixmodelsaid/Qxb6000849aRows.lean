/-
  No cell of these rows narrows 'for every input' (looked for: loops, veiled, ifaces, maps, wideKeys, modest, calm, conditions, laid).
  DERIVED. THE GIVEN ROWS OF THIS SEAT. 5 by the template 'for every input the law returns true; each argument reads behind the call as it read before'; 0 by the template 'total and deterministic' (their statements: Qxb6000849aTotals.lean).
  GIVEN WITH THE SEED: the statements are not yours to turn. If you find one false, say at which input.
  Laid BY PROGRAM, IN A SANDBOX (cutbox-rows.mjs): the forced cells as the released guide's own fill.sh prints them over the translation aa1d8b673771487e… (all of the seat's roots in one cut). By AI agents, Wed Nov 11 2026. No macro, syntax, notation, axiom, sorry.
-/
import Derived.Test.Qxb6000849aChecked
import GoSem.Claim
import GoSem.ClaimJoined
import GoSem.ClaimMapViews
import Derived.JoinedTies
import Derived.KernelRfl
namespace Go.Proofs.Qxb6000849a
/- THE CELL 'sum', in the pinned program and in every row, IS THE sha256 OF THE DUMP (.gsa) THAT Qxb6000849aProg.lean LOADS. Nothing in Lean hashes anything: it is a label: what it is worth is what the hold of that sum in a sandbox is worth. -/
noncomputable def Try.pinned : Pinned := { name := "qxb6000849a", sum := "aa1d8b673771487ed1855e10d0bae2dcc8e59908ae048a1f1b7526aedb46202d", checked := Try.checked }
namespace Rows
def none {H : Type} : Left H := { results := [], args := [] }

/-- 'zzlaws_ops_b1.FnMaximalSubpartMatchesUTF8PrefixModel': WHATEVER THE INPUT: true; the input reads as it did. -/
def fnMaximalSubpartMatchesUTF8PrefixModelSpec : ChangeSpec := { name := "fnMaximalSubpartMatchesUTF8PrefixModel", fn := fun _ => fun
  | [d] => { results := [.lit (.bool true)], args := [d] }
  | _ => none }
def fnMaximalSubpartMatchesUTF8PrefixModelRow : OpenClaim := { program := "qxb6000849a", sum := "aa1d8b673771487ed1855e10d0bae2dcc8e59908ae048a1f1b7526aedb46202d", func := "example.com/stepweave/stepweave/zzlaws_ops_b1.FnMaximalSubpartMatchesUTF8PrefixModel", spec := "fnMaximalSubpartMatchesUTF8PrefixModel", apart := false }
def FnMaximalSubpartMatchesUTF8PrefixModelSaid : Prop := fnMaximalSubpartMatchesUTF8PrefixModelRow.holds Try.pinned (OpenSpec.ofChange fnMaximalSubpartMatchesUTF8PrefixModelSpec)

/-- ITS FALSE NEIGHBOUR: 'it returns false'. Refute it at one input. -/
def fnMaximalSubpartMatchesUTF8PrefixModelWrong : ChangeSpec := { name := "fnMaximalSubpartMatchesUTF8PrefixModel", fn := fun _ => fun
  | [d] => { results := [.lit (.bool false)], args := [d] }
  | _ => none }
def FnMaximalSubpartMatchesUTF8PrefixModelWrongFalsely : Prop := fnMaximalSubpartMatchesUTF8PrefixModelRow.holds Try.pinned (OpenSpec.ofChange fnMaximalSubpartMatchesUTF8PrefixModelWrong)

/-- 'zzlaws_ops_b1.FnMaximalSubpartBoundedAndStableUnderTruncation': WHATEVER THE INPUT: true; the input reads as it did. -/
def fnMaximalSubpartBoundedAndStableUnderTruncationSpec : ChangeSpec := { name := "fnMaximalSubpartBoundedAndStableUnderTruncation", fn := fun _ => fun
  | [d] => { results := [.lit (.bool true)], args := [d] }
  | _ => none }
def fnMaximalSubpartBoundedAndStableUnderTruncationRow : OpenClaim := { program := "qxb6000849a", sum := "aa1d8b673771487ed1855e10d0bae2dcc8e59908ae048a1f1b7526aedb46202d", func := "example.com/stepweave/stepweave/zzlaws_ops_b1.FnMaximalSubpartBoundedAndStableUnderTruncation", spec := "fnMaximalSubpartBoundedAndStableUnderTruncation", apart := false }
def FnMaximalSubpartBoundedAndStableUnderTruncationSaid : Prop := fnMaximalSubpartBoundedAndStableUnderTruncationRow.holds Try.pinned (OpenSpec.ofChange fnMaximalSubpartBoundedAndStableUnderTruncationSpec)

/-- ITS FALSE NEIGHBOUR: 'it returns false'. Refute it at one input. -/
def fnMaximalSubpartBoundedAndStableUnderTruncationWrong : ChangeSpec := { name := "fnMaximalSubpartBoundedAndStableUnderTruncation", fn := fun _ => fun
  | [d] => { results := [.lit (.bool false)], args := [d] }
  | _ => none }
def FnMaximalSubpartBoundedAndStableUnderTruncationWrongFalsely : Prop := fnMaximalSubpartBoundedAndStableUnderTruncationRow.holds Try.pinned (OpenSpec.ofChange fnMaximalSubpartBoundedAndStableUnderTruncationWrong)

/-- 'zzlaws_ops_b1.FnUnextendIdempotent': WHATEVER THE INPUT: true; the input reads as it did. -/
def fnUnextendIdempotentSpec : ChangeSpec := { name := "fnUnextendIdempotent", fn := fun _ => fun
  | [d] => { results := [.lit (.bool true)], args := [d] }
  | _ => none }
def fnUnextendIdempotentRow : OpenClaim := { program := "qxb6000849a", sum := "aa1d8b673771487ed1855e10d0bae2dcc8e59908ae048a1f1b7526aedb46202d", func := "example.com/stepweave/stepweave/zzlaws_ops_b1.FnUnextendIdempotent", spec := "fnUnextendIdempotent", inPlace := ["internal/abi.NoEscape"], apart := false }
def FnUnextendIdempotentSaid : Prop := fnUnextendIdempotentRow.holds Try.pinned (OpenSpec.ofChange fnUnextendIdempotentSpec)

/-- ITS FALSE NEIGHBOUR: 'it returns false'. Refute it at one input. -/
def fnUnextendIdempotentWrong : ChangeSpec := { name := "fnUnextendIdempotent", fn := fun _ => fun
  | [d] => { results := [.lit (.bool false)], args := [d] }
  | _ => none }
def FnUnextendIdempotentWrongFalsely : Prop := fnUnextendIdempotentRow.holds Try.pinned (OpenSpec.ofChange fnUnextendIdempotentWrong)

/-- 'zzlaws_ops_b1.FnUnextendOnlyDeletesAndKeepsPlainText': WHATEVER THE INPUT: true; the input reads as it did. -/
def fnUnextendOnlyDeletesAndKeepsPlainTextSpec : ChangeSpec := { name := "fnUnextendOnlyDeletesAndKeepsPlainText", fn := fun _ => fun
  | [d] => { results := [.lit (.bool true)], args := [d] }
  | _ => none }
def fnUnextendOnlyDeletesAndKeepsPlainTextRow : OpenClaim := { program := "qxb6000849a", sum := "aa1d8b673771487ed1855e10d0bae2dcc8e59908ae048a1f1b7526aedb46202d", func := "example.com/stepweave/stepweave/zzlaws_ops_b1.FnUnextendOnlyDeletesAndKeepsPlainText", spec := "fnUnextendOnlyDeletesAndKeepsPlainText", inPlace := ["internal/abi.NoEscape"], apart := false }
def FnUnextendOnlyDeletesAndKeepsPlainTextSaid : Prop := fnUnextendOnlyDeletesAndKeepsPlainTextRow.holds Try.pinned (OpenSpec.ofChange fnUnextendOnlyDeletesAndKeepsPlainTextSpec)

/-- ITS FALSE NEIGHBOUR: 'it returns false'. Refute it at one input. -/
def fnUnextendOnlyDeletesAndKeepsPlainTextWrong : ChangeSpec := { name := "fnUnextendOnlyDeletesAndKeepsPlainText", fn := fun _ => fun
  | [d] => { results := [.lit (.bool false)], args := [d] }
  | _ => none }
def FnUnextendOnlyDeletesAndKeepsPlainTextWrongFalsely : Prop := fnUnextendOnlyDeletesAndKeepsPlainTextRow.holds Try.pinned (OpenSpec.ofChange fnUnextendOnlyDeletesAndKeepsPlainTextWrong)

/-- 'zzlaws_ops_b1.FnUnextendSplitsAfterPlainPrefix': WHATEVER THE INPUT: true; the input reads as it did. -/
def fnUnextendSplitsAfterPlainPrefixSpec : ChangeSpec := { name := "fnUnextendSplitsAfterPlainPrefix", fn := fun _ => fun
  | [d1, d2] => { results := [.lit (.bool true)], args := [d1, d2] }
  | _ => none }
def fnUnextendSplitsAfterPlainPrefixRow : OpenClaim := { program := "qxb6000849a", sum := "aa1d8b673771487ed1855e10d0bae2dcc8e59908ae048a1f1b7526aedb46202d", func := "example.com/stepweave/stepweave/zzlaws_ops_b1.FnUnextendSplitsAfterPlainPrefix", spec := "fnUnextendSplitsAfterPlainPrefix", inPlace := ["internal/abi.NoEscape"], apart := false }
def FnUnextendSplitsAfterPlainPrefixSaid : Prop := fnUnextendSplitsAfterPlainPrefixRow.holds Try.pinned (OpenSpec.ofChange fnUnextendSplitsAfterPlainPrefixSpec)

/-- ITS FALSE NEIGHBOUR: 'it returns false'. Refute it at one input. -/
def fnUnextendSplitsAfterPlainPrefixWrong : ChangeSpec := { name := "fnUnextendSplitsAfterPlainPrefix", fn := fun _ => fun
  | [d1, d2] => { results := [.lit (.bool false)], args := [d1, d2] }
  | _ => none }
def FnUnextendSplitsAfterPlainPrefixWrongFalsely : Prop := fnUnextendSplitsAfterPlainPrefixRow.holds Try.pinned (OpenSpec.ofChange fnUnextendSplitsAfterPlainPrefixWrong)

end Rows
end Go.Proofs.Qxb6000849a
