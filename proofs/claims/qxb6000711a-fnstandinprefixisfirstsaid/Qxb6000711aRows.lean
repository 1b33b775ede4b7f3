/-
  No cell of these rows narrows 'for every input' (looked for: loops, veiled, ifaces, maps, wideKeys, modest, calm, conditions, laid).
  DERIVED. THE GIVEN ROWS OF THIS SEAT. 3 by the template 'for every input the law returns true; each argument reads behind the call as it read before'; 0 by the template 'total and deterministic' (their statements: Qxb6000711aTotals.lean).
  GIVEN WITH THE SEED: the statements are not yours to turn. If you find one false, say at which input.
  Laid BY PROGRAM, IN A SANDBOX (cutbox-rows.mjs): the forced cells as the released guide's own fill.sh prints them over the translation 7ca19c0613ad3dcb… (all of the seat's roots in one cut). By AI agents, Wed Nov 11 2026. No macro, syntax, notation, axiom, sorry.
-/
import Derived.Test.Qxb6000711aChecked
import GoSem.Claim
import GoSem.ClaimJoined
import GoSem.ClaimMapViews
import Derived.JoinedTies
import Derived.KernelRfl
namespace Go.Proofs.Qxb6000711a
/- THE CELL 'sum', in the pinned program and in every row, IS THE sha256 OF THE DUMP (.gsa) THAT Qxb6000711aProg.lean LOADS. Nothing in Lean hashes anything: it is a label: what it is worth is what the hold of that sum in a sandbox is worth. -/
noncomputable def Try.pinned : Pinned := { name := "qxb6000711a", sum := "7ca19c0613ad3dcb7072f6a0d0608be6f44adea57d4407945c43952026398d47", checked := Try.checked }
namespace Rows
def none {H : Type} : Left H := { results := [], args := [] }

/-- 'zzlaws_root_b1.FnStandInPrefixIsFree': WHATEVER THE INPUT: true; the input reads as it did. -/
def fnStandInPrefixIsFreeSpec : ChangeSpec := { name := "fnStandInPrefixIsFree", fn := fun _ => fun
  | [d] => { results := [.lit (.bool true)], args := [d] }
  | _ => none }
def fnStandInPrefixIsFreeRow : OpenClaim := { program := "qxb6000711a", sum := "7ca19c0613ad3dcb7072f6a0d0608be6f44adea57d4407945c43952026398d47", func := "example.com/skillwright/skillwright/zzlaws_root_b1.FnStandInPrefixIsFree", spec := "fnStandInPrefixIsFree", apart := false }
def FnStandInPrefixIsFreeSaid : Prop := fnStandInPrefixIsFreeRow.holds Try.pinned (OpenSpec.ofChange fnStandInPrefixIsFreeSpec)

/-- ITS FALSE NEIGHBOUR: 'it returns false'. Refute it at one input. -/
def fnStandInPrefixIsFreeWrong : ChangeSpec := { name := "fnStandInPrefixIsFree", fn := fun _ => fun
  | [d] => { results := [.lit (.bool false)], args := [d] }
  | _ => none }
def FnStandInPrefixIsFreeWrongFalsely : Prop := fnStandInPrefixIsFreeRow.holds Try.pinned (OpenSpec.ofChange fnStandInPrefixIsFreeWrong)

/-- 'zzlaws_root_b1.FnStandInPrefixIsFirst': WHATEVER THE INPUT: true; the input reads as it did. -/
def fnStandInPrefixIsFirstSpec : ChangeSpec := { name := "fnStandInPrefixIsFirst", fn := fun _ => fun
  | [d] => { results := [.lit (.bool true)], args := [d] }
  | _ => none }
def fnStandInPrefixIsFirstRow : OpenClaim := { program := "qxb6000711a", sum := "7ca19c0613ad3dcb7072f6a0d0608be6f44adea57d4407945c43952026398d47", func := "example.com/skillwright/skillwright/zzlaws_root_b1.FnStandInPrefixIsFirst", spec := "fnStandInPrefixIsFirst", apart := false }
def FnStandInPrefixIsFirstSaid : Prop := fnStandInPrefixIsFirstRow.holds Try.pinned (OpenSpec.ofChange fnStandInPrefixIsFirstSpec)

/-- ITS FALSE NEIGHBOUR: 'it returns false'. Refute it at one input. -/
def fnStandInPrefixIsFirstWrong : ChangeSpec := { name := "fnStandInPrefixIsFirst", fn := fun _ => fun
  | [d] => { results := [.lit (.bool false)], args := [d] }
  | _ => none }
def FnStandInPrefixIsFirstWrongFalsely : Prop := fnStandInPrefixIsFirstRow.holds Try.pinned (OpenSpec.ofChange fnStandInPrefixIsFirstWrong)

/-- 'zzlaws_root_b1.FnStandInPrefixGrowsWithText': WHATEVER THE INPUT: true; the input reads as it did. -/
def fnStandInPrefixGrowsWithTextSpec : ChangeSpec := { name := "fnStandInPrefixGrowsWithText", fn := fun _ => fun
  | [d1, d2] => { results := [.lit (.bool true)], args := [d1, d2] }
  | _ => none }
def fnStandInPrefixGrowsWithTextRow : OpenClaim := { program := "qxb6000711a", sum := "7ca19c0613ad3dcb7072f6a0d0608be6f44adea57d4407945c43952026398d47", func := "example.com/skillwright/skillwright/zzlaws_root_b1.FnStandInPrefixGrowsWithText", spec := "fnStandInPrefixGrowsWithText", apart := false }
def FnStandInPrefixGrowsWithTextSaid : Prop := fnStandInPrefixGrowsWithTextRow.holds Try.pinned (OpenSpec.ofChange fnStandInPrefixGrowsWithTextSpec)

/-- ITS FALSE NEIGHBOUR: 'it returns false'. Refute it at one input. -/
def fnStandInPrefixGrowsWithTextWrong : ChangeSpec := { name := "fnStandInPrefixGrowsWithText", fn := fun _ => fun
  | [d1, d2] => { results := [.lit (.bool false)], args := [d1, d2] }
  | _ => none }
def FnStandInPrefixGrowsWithTextWrongFalsely : Prop := fnStandInPrefixGrowsWithTextRow.holds Try.pinned (OpenSpec.ofChange fnStandInPrefixGrowsWithTextWrong)

end Rows
end Go.Proofs.Qxb6000711a
