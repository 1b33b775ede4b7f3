/-
  No cell of these rows narrows 'for every input' (looked for: loops, veiled, ifaces, maps, wideKeys, modest, calm, conditions, laid).
  DERIVED. THE GIVEN ROWS OF THIS SEAT. 3 by the template 'for every input the law returns true; each argument reads behind the call as it read before'; 0 by the template 'total and deterministic' (their statements: Qxb6001221aTotals.lean).
  GIVEN WITH THE SEED: the statements are not yours to turn. If you find one false, say at which input.
  Laid BY PROGRAM, IN A SANDBOX (cutbox-rows.mjs): the forced cells as the released guide's own fill.sh prints them over the translation adff83339f17d39c… (all of the seat's roots in one cut). By AI agents, Wed Nov 11 2026. No macro, syntax, notation, axiom, sorry.
-/
import Derived.Test.Qxb6001221aChecked
import GoSem.Claim
import GoSem.ClaimJoined
import GoSem.ClaimMapViews
import Derived.JoinedTies
import Derived.KernelRfl
namespace Go.Proofs.Qxb6001221a
/- THE CELL 'sum', in the pinned program and in every row, IS THE sha256 OF THE DUMP (.gsa) THAT Qxb6001221aProg.lean LOADS. Nothing in Lean hashes anything: it is a label: what it is worth is what the hold of that sum in a sandbox is worth. -/
noncomputable def Try.pinned : Pinned := { name := "qxb6001221a", sum := "adff83339f17d39cc91efe414c3800ed82b99d7dd9f6a5abccdc1a20975078be", checked := Try.checked }
namespace Rows
def none {H : Type} : Left H := { results := [], args := [] }

/-- 'zzlaws_root_b1.FnTomlStringEndBoundsAndStable': WHATEVER THE INPUT: true; the input reads as it did. -/
def fnTomlStringEndBoundsAndStableSpec : ChangeSpec := { name := "fnTomlStringEndBoundsAndStable", fn := fun _ => fun
  | [d1, d2] => { results := [.lit (.bool true)], args := [d1, d2] }
  | _ => none }
def fnTomlStringEndBoundsAndStableRow : OpenClaim := { program := "qxb6001221a", sum := "adff83339f17d39cc91efe414c3800ed82b99d7dd9f6a5abccdc1a20975078be", func := "example.com/tiergate/tiergate/zzlaws_root_b1.FnTomlStringEndBoundsAndStable", spec := "fnTomlStringEndBoundsAndStable", inPlace := ["internal/abi.NoEscape", "internal/bytealg.MakeNoZero"], apart := false }
def FnTomlStringEndBoundsAndStableSaid : Prop := fnTomlStringEndBoundsAndStableRow.holds Try.pinned (OpenSpec.ofChange fnTomlStringEndBoundsAndStableSpec)

/-- ITS FALSE NEIGHBOUR: 'it returns false'. Refute it at one input. -/
def fnTomlStringEndBoundsAndStableWrong : ChangeSpec := { name := "fnTomlStringEndBoundsAndStable", fn := fun _ => fun
  | [d1, d2] => { results := [.lit (.bool false)], args := [d1, d2] }
  | _ => none }
def FnTomlStringEndBoundsAndStableWrongFalsely : Prop := fnTomlStringEndBoundsAndStableRow.holds Try.pinned (OpenSpec.ofChange fnTomlStringEndBoundsAndStableWrong)

/-- 'zzlaws_root_b1.FnTomlStringEndShift': WHATEVER THE INPUT: true; the input reads as it did. -/
def fnTomlStringEndShiftSpec : ChangeSpec := { name := "fnTomlStringEndShift", fn := fun _ => fun
  | [d1, d2, d3] => { results := [.lit (.bool true)], args := [d1, d2, d3] }
  | _ => none }
def fnTomlStringEndShiftRow : OpenClaim := { program := "qxb6001221a", sum := "adff83339f17d39cc91efe414c3800ed82b99d7dd9f6a5abccdc1a20975078be", func := "example.com/tiergate/tiergate/zzlaws_root_b1.FnTomlStringEndShift", spec := "fnTomlStringEndShift", inPlace := ["internal/abi.NoEscape", "internal/bytealg.MakeNoZero"], apart := false }
def FnTomlStringEndShiftSaid : Prop := fnTomlStringEndShiftRow.holds Try.pinned (OpenSpec.ofChange fnTomlStringEndShiftSpec)

/-- ITS FALSE NEIGHBOUR: 'it returns false'. Refute it at one input. -/
def fnTomlStringEndShiftWrong : ChangeSpec := { name := "fnTomlStringEndShift", fn := fun _ => fun
  | [d1, d2, d3] => { results := [.lit (.bool false)], args := [d1, d2, d3] }
  | _ => none }
def FnTomlStringEndShiftWrongFalsely : Prop := fnTomlStringEndShiftRow.holds Try.pinned (OpenSpec.ofChange fnTomlStringEndShiftWrong)

/-- 'zzlaws_root_b1.FnTomlStringEndPlain': WHATEVER THE INPUT: true; the input reads as it did. -/
def fnTomlStringEndPlainSpec : ChangeSpec := { name := "fnTomlStringEndPlain", fn := fun _ => fun
  | [d1, d2, d3, d4, d5] => { results := [.lit (.bool true)], args := [d1, d2, d3, d4, d5] }
  | _ => none }
def fnTomlStringEndPlainRow : OpenClaim := { program := "qxb6001221a", sum := "adff83339f17d39cc91efe414c3800ed82b99d7dd9f6a5abccdc1a20975078be", func := "example.com/tiergate/tiergate/zzlaws_root_b1.FnTomlStringEndPlain", spec := "fnTomlStringEndPlain", inPlace := ["internal/abi.NoEscape", "internal/bytealg.MakeNoZero"], apart := false }
def FnTomlStringEndPlainSaid : Prop := fnTomlStringEndPlainRow.holds Try.pinned (OpenSpec.ofChange fnTomlStringEndPlainSpec)

/-- ITS FALSE NEIGHBOUR: 'it returns false'. Refute it at one input. -/
def fnTomlStringEndPlainWrong : ChangeSpec := { name := "fnTomlStringEndPlain", fn := fun _ => fun
  | [d1, d2, d3, d4, d5] => { results := [.lit (.bool false)], args := [d1, d2, d3, d4, d5] }
  | _ => none }
def FnTomlStringEndPlainWrongFalsely : Prop := fnTomlStringEndPlainRow.holds Try.pinned (OpenSpec.ofChange fnTomlStringEndPlainWrong)

end Rows
end Go.Proofs.Qxb6001221a
