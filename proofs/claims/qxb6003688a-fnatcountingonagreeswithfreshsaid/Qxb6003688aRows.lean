/-
  No cell of these rows narrows 'for every input' (looked for: loops, veiled, ifaces, maps, wideKeys, modest, calm, conditions, laid).
  DERIVED. THE GIVEN ROWS OF THIS SEAT. 4 by the template 'for every input the law returns true; each argument reads behind the call as it read before'; 0 by the template 'total and deterministic' (their statements: Qxb6003688aTotals.lean).
  GIVEN WITH THE SEED: the statements are not yours to turn. If you find one false, say at which input.
  Laid BY PROGRAM, IN A SANDBOX (cutbox-rows.mjs): the forced cells as the released guide's own fill.sh prints them over the translation b8402fe2d21d84cb… (all of the seat's roots in one cut). By AI agents, Wed Nov 11 2026. No macro, syntax, notation, axiom, sorry.
-/
import Derived.Test.Qxb6003688aChecked
import GoSem.Claim
import GoSem.ClaimJoined
import GoSem.ClaimMapViews
import Derived.JoinedTies
import Derived.KernelRfl
namespace Go.Proofs.Qxb6003688a
/- THE CELL 'sum', in the pinned program and in every row, IS THE sha256 OF THE DUMP (.gsa) THAT Qxb6003688aProg.lean LOADS. Nothing in Lean hashes anything: it is a label: what it is worth is what the hold of that sum in a sandbox is worth. -/
noncomputable def Try.pinned : Pinned := { name := "qxb6003688a", sum := "b8402fe2d21d84cb4ee281cb6dc4138f768b21050ed7059f7c24c7a32713650b", checked := Try.checked }
namespace Rows
def none {H : Type} : Left H := { results := [], args := [] }

/-- 'zzlaws_internal_linecol_g1.FnAtFreshMatchesWalk': WHATEVER THE INPUT: true; the input reads as it did. -/
def fnAtFreshMatchesWalkSpec : ChangeSpec := { name := "fnAtFreshMatchesWalk", fn := fun _ => fun
  | [d1, d2, d3] => { results := [.lit (.bool true)], args := [d1, d2, d3] }
  | _ => none }
def fnAtFreshMatchesWalkRow : OpenClaim := { program := "qxb6003688a", sum := "b8402fe2d21d84cb4ee281cb6dc4138f768b21050ed7059f7c24c7a32713650b", func := "example.com/oropendola/oropendola/zzlaws_internal_linecol_g1.FnAtFreshMatchesWalk", spec := "fnAtFreshMatchesWalk", inPlace := ["internal/bytealg.Count", "internal/bytealg.IndexByte", "internal/bytealg.Index"], named := ["internal/bytealg.MaxLen"], apart := false }
def FnAtFreshMatchesWalkSaid : Prop := fnAtFreshMatchesWalkRow.holds Try.pinned (OpenSpec.ofChange fnAtFreshMatchesWalkSpec)

/-- ITS FALSE NEIGHBOUR: 'it returns false'. Refute it at one input. -/
def fnAtFreshMatchesWalkWrong : ChangeSpec := { name := "fnAtFreshMatchesWalk", fn := fun _ => fun
  | [d1, d2, d3] => { results := [.lit (.bool false)], args := [d1, d2, d3] }
  | _ => none }
def FnAtFreshMatchesWalkWrongFalsely : Prop := fnAtFreshMatchesWalkRow.holds Try.pinned (OpenSpec.ofChange fnAtFreshMatchesWalkWrong)

/-- 'zzlaws_internal_linecol_g1.FnAtCountingOnAgreesWithFresh': WHATEVER THE INPUT: true; the input reads as it did. -/
def fnAtCountingOnAgreesWithFreshSpec : ChangeSpec := { name := "fnAtCountingOnAgreesWithFresh", fn := fun _ => fun
  | [d1, d2, d3] => { results := [.lit (.bool true)], args := [d1, d2, d3] }
  | _ => none }
def fnAtCountingOnAgreesWithFreshRow : OpenClaim := { program := "qxb6003688a", sum := "b8402fe2d21d84cb4ee281cb6dc4138f768b21050ed7059f7c24c7a32713650b", func := "example.com/oropendola/oropendola/zzlaws_internal_linecol_g1.FnAtCountingOnAgreesWithFresh", spec := "fnAtCountingOnAgreesWithFresh", inPlace := ["internal/bytealg.Count", "internal/bytealg.IndexByte", "internal/bytealg.Index"], named := ["internal/bytealg.MaxLen"], apart := false }
def FnAtCountingOnAgreesWithFreshSaid : Prop := fnAtCountingOnAgreesWithFreshRow.holds Try.pinned (OpenSpec.ofChange fnAtCountingOnAgreesWithFreshSpec)

/-- ITS FALSE NEIGHBOUR: 'it returns false'. Refute it at one input. -/
def fnAtCountingOnAgreesWithFreshWrong : ChangeSpec := { name := "fnAtCountingOnAgreesWithFresh", fn := fun _ => fun
  | [d1, d2, d3] => { results := [.lit (.bool false)], args := [d1, d2, d3] }
  | _ => none }
def FnAtCountingOnAgreesWithFreshWrongFalsely : Prop := fnAtCountingOnAgreesWithFreshRow.holds Try.pinned (OpenSpec.ofChange fnAtCountingOnAgreesWithFreshWrong)

/-- 'zzlaws_internal_linecol_g1.FnAtModesAgreeWithoutCR': WHATEVER THE INPUT: true; the input reads as it did. -/
def fnAtModesAgreeWithoutCRSpec : ChangeSpec := { name := "fnAtModesAgreeWithoutCR", fn := fun _ => fun
  | [d1, d2] => { results := [.lit (.bool true)], args := [d1, d2] }
  | _ => none }
def fnAtModesAgreeWithoutCRRow : OpenClaim := { program := "qxb6003688a", sum := "b8402fe2d21d84cb4ee281cb6dc4138f768b21050ed7059f7c24c7a32713650b", func := "example.com/oropendola/oropendola/zzlaws_internal_linecol_g1.FnAtModesAgreeWithoutCR", spec := "fnAtModesAgreeWithoutCR", inPlace := ["internal/bytealg.Count", "internal/bytealg.IndexByte", "internal/bytealg.Index"], named := ["internal/bytealg.MaxLen"], apart := false }
def FnAtModesAgreeWithoutCRSaid : Prop := fnAtModesAgreeWithoutCRRow.holds Try.pinned (OpenSpec.ofChange fnAtModesAgreeWithoutCRSpec)

/-- ITS FALSE NEIGHBOUR: 'it returns false'. Refute it at one input. -/
def fnAtModesAgreeWithoutCRWrong : ChangeSpec := { name := "fnAtModesAgreeWithoutCR", fn := fun _ => fun
  | [d1, d2] => { results := [.lit (.bool false)], args := [d1, d2] }
  | _ => none }
def FnAtModesAgreeWithoutCRWrongFalsely : Prop := fnAtModesAgreeWithoutCRRow.holds Try.pinned (OpenSpec.ofChange fnAtModesAgreeWithoutCRWrong)

/-- 'zzlaws_internal_yaml_g1.FnTagIsAgreesWithString': WHATEVER THE INPUT: true; the input reads as it did. -/
def fnTagIsAgreesWithStringSpec : ChangeSpec := { name := "fnTagIsAgreesWithString", fn := fun _ => fun
  | [d1, d2, d3, d4] => { results := [.lit (.bool true)], args := [d1, d2, d3, d4] }
  | _ => none }
def fnTagIsAgreesWithStringRow : OpenClaim := { program := "qxb6003688a", sum := "b8402fe2d21d84cb4ee281cb6dc4138f768b21050ed7059f7c24c7a32713650b", func := "example.com/oropendola/oropendola/zzlaws_internal_yaml_g1.FnTagIsAgreesWithString", spec := "fnTagIsAgreesWithString", apart := false }
def FnTagIsAgreesWithStringSaid : Prop := fnTagIsAgreesWithStringRow.holds Try.pinned (OpenSpec.ofChange fnTagIsAgreesWithStringSpec)

/-- ITS FALSE NEIGHBOUR: 'it returns false'. Refute it at one input. -/
def fnTagIsAgreesWithStringWrong : ChangeSpec := { name := "fnTagIsAgreesWithString", fn := fun _ => fun
  | [d1, d2, d3, d4] => { results := [.lit (.bool false)], args := [d1, d2, d3, d4] }
  | _ => none }
def FnTagIsAgreesWithStringWrongFalsely : Prop := fnTagIsAgreesWithStringRow.holds Try.pinned (OpenSpec.ofChange fnTagIsAgreesWithStringWrong)

end Rows
end Go.Proofs.Qxb6003688a
