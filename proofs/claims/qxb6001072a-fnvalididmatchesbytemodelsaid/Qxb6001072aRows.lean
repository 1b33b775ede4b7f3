/-
  No cell of these rows narrows 'for every input' (looked for: loops, veiled, ifaces, maps, wideKeys, modest, calm, conditions, laid).
  DERIVED. THE GIVEN ROWS OF THIS SEAT. 3 by the template 'for every input the law returns true; each argument reads behind the call as it read before'; 0 by the template 'total and deterministic' (their statements: Qxb6001072aTotals.lean).
  GIVEN WITH THE SEED: the statements are not yours to turn. If you find one false, say at which input.
  Laid BY PROGRAM, IN A SANDBOX (cutbox-rows.mjs): the forced cells as the released guide's own fill.sh prints them over the translation ae6ff52856b06d26… (all of the seat's roots in one cut). By AI agents, Wed Nov 11 2026. No macro, syntax, notation, axiom, sorry.
-/
import Derived.Test.Qxb6001072aChecked
import GoSem.Claim
import GoSem.ClaimJoined
import GoSem.ClaimMapViews
import Derived.JoinedTies
import Derived.KernelRfl
namespace Go.Proofs.Qxb6001072a
/- THE CELL 'sum', in the pinned program and in every row, IS THE sha256 OF THE DUMP (.gsa) THAT Qxb6001072aProg.lean LOADS. Nothing in Lean hashes anything: it is a label: what it is worth is what the hold of that sum in a sandbox is worth. -/
noncomputable def Try.pinned : Pinned := { name := "qxb6001072a", sum := "ae6ff52856b06d260e1eb11ea33caeb63eb0e1d832277b4cde2158f403084565", checked := Try.checked }
namespace Rows
def none {H : Type} : Left H := { results := [], args := [] }

/-- 'zzlaws_config_b1.FnValidIDMatchesByteModel': WHATEVER THE INPUT: true; the input reads as it did. -/
def fnValidIDMatchesByteModelSpec : ChangeSpec := { name := "fnValidIDMatchesByteModel", fn := fun _ => fun
  | [d] => { results := [.lit (.bool true)], args := [d] }
  | _ => none }
def fnValidIDMatchesByteModelRow : OpenClaim := { program := "qxb6001072a", sum := "ae6ff52856b06d260e1eb11ea33caeb63eb0e1d832277b4cde2158f403084565", func := "example.com/sirdar/sirdar/zzlaws_config_b1.FnValidIDMatchesByteModel", spec := "fnValidIDMatchesByteModel", apart := false }
def FnValidIDMatchesByteModelSaid : Prop := fnValidIDMatchesByteModelRow.holds Try.pinned (OpenSpec.ofChange fnValidIDMatchesByteModelSpec)

/-- ITS FALSE NEIGHBOUR: 'it returns false'. Refute it at one input. -/
def fnValidIDMatchesByteModelWrong : ChangeSpec := { name := "fnValidIDMatchesByteModel", fn := fun _ => fun
  | [d] => { results := [.lit (.bool false)], args := [d] }
  | _ => none }
def FnValidIDMatchesByteModelWrongFalsely : Prop := fnValidIDMatchesByteModelRow.holds Try.pinned (OpenSpec.ofChange fnValidIDMatchesByteModelWrong)

/-- 'zzlaws_config_b1.FnValidIDClosedUnderJoin': WHATEVER THE INPUT: true; the input reads as it did. -/
def fnValidIDClosedUnderJoinSpec : ChangeSpec := { name := "fnValidIDClosedUnderJoin", fn := fun _ => fun
  | [d1, d2] => { results := [.lit (.bool true)], args := [d1, d2] }
  | _ => none }
def fnValidIDClosedUnderJoinRow : OpenClaim := { program := "qxb6001072a", sum := "ae6ff52856b06d260e1eb11ea33caeb63eb0e1d832277b4cde2158f403084565", func := "example.com/sirdar/sirdar/zzlaws_config_b1.FnValidIDClosedUnderJoin", spec := "fnValidIDClosedUnderJoin", apart := false }
def FnValidIDClosedUnderJoinSaid : Prop := fnValidIDClosedUnderJoinRow.holds Try.pinned (OpenSpec.ofChange fnValidIDClosedUnderJoinSpec)

/-- ITS FALSE NEIGHBOUR: 'it returns false'. Refute it at one input. -/
def fnValidIDClosedUnderJoinWrong : ChangeSpec := { name := "fnValidIDClosedUnderJoin", fn := fun _ => fun
  | [d1, d2] => { results := [.lit (.bool false)], args := [d1, d2] }
  | _ => none }
def FnValidIDClosedUnderJoinWrongFalsely : Prop := fnValidIDClosedUnderJoinRow.holds Try.pinned (OpenSpec.ofChange fnValidIDClosedUnderJoinWrong)

/-- 'zzlaws_config_b1.FnValidIDSplit': WHATEVER THE INPUT: true; the input reads as it did. -/
def fnValidIDSplitSpec : ChangeSpec := { name := "fnValidIDSplit", fn := fun _ => fun
  | [d1, d2] => { results := [.lit (.bool true)], args := [d1, d2] }
  | _ => none }
def fnValidIDSplitRow : OpenClaim := { program := "qxb6001072a", sum := "ae6ff52856b06d260e1eb11ea33caeb63eb0e1d832277b4cde2158f403084565", func := "example.com/sirdar/sirdar/zzlaws_config_b1.FnValidIDSplit", spec := "fnValidIDSplit", apart := false }
def FnValidIDSplitSaid : Prop := fnValidIDSplitRow.holds Try.pinned (OpenSpec.ofChange fnValidIDSplitSpec)

/-- ITS FALSE NEIGHBOUR: 'it returns false'. Refute it at one input. -/
def fnValidIDSplitWrong : ChangeSpec := { name := "fnValidIDSplit", fn := fun _ => fun
  | [d1, d2] => { results := [.lit (.bool false)], args := [d1, d2] }
  | _ => none }
def FnValidIDSplitWrongFalsely : Prop := fnValidIDSplitRow.holds Try.pinned (OpenSpec.ofChange fnValidIDSplitWrong)

end Rows
end Go.Proofs.Qxb6001072a
