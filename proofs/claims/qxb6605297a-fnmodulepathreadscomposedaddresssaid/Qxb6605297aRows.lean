/-
  No cell of these rows narrows 'for every input' (looked for: loops, veiled, ifaces, maps, wideKeys, modest, calm, conditions, laid).
  DERIVED. THE GIVEN ROWS OF THIS SEAT. 2 by the template 'for every input the law returns true; each argument reads behind the call as it read before'; 0 by the template 'total and deterministic' (their statements: Qxb6605297aTotals.lean).
  GIVEN WITH THE SEED: the statements are not yours to turn. If you find one false, say at which input.
  Laid BY PROGRAM, IN A SANDBOX (cutbox-rows.mjs): the forced cells as the released guide's own fill.sh prints them over the translation 930db5169fc6b828… (all of the seat's roots in one cut). By AI agents, Wed Nov 11 2026. No macro, syntax, notation, axiom, sorry.
-/
import Derived.Test.Qxb6605297aChecked
import GoSem.Claim
import GoSem.ClaimJoined
import GoSem.ClaimMapViews
import Derived.JoinedTies
import Derived.KernelRfl
namespace Go.Proofs.Qxb6605297a
/- THE CELL 'sum', in the pinned program and in every row, IS THE sha256 OF THE DUMP (.gsa) THAT Qxb6605297aProg.lean LOADS. Nothing in Lean hashes anything: it is a label: what it is worth is what the hold of that sum in a sandbox is worth. -/
noncomputable def Try.pinned : Pinned := { name := "qxb6605297a", sum := "930db5169fc6b828b2fdc007e608d3ed77d6880a338577e8a1a5aeaac3799755", checked := Try.checked }
namespace Rows
def none {H : Type} : Left H := { results := [], args := [] }

/-- 'zzlaws_plan_b1.FnModulePathMatchesScanner': WHATEVER THE INPUT: true; the input reads as it did. -/
def fnModulePathMatchesScannerSpec : ChangeSpec := { name := "fnModulePathMatchesScanner", fn := fun _ => fun
  | [d] => { results := [.lit (.bool true)], args := [d] }
  | _ => none }
def fnModulePathMatchesScannerRow : OpenClaim := { program := "qxb6605297a", sum := "930db5169fc6b828b2fdc007e608d3ed77d6880a338577e8a1a5aeaac3799755", func := "example.com/keelguard/keelguard/zzlaws_plan_b1.FnModulePathMatchesScanner", spec := "fnModulePathMatchesScanner", inPlace := ["internal/bytealg.IndexByteString", "internal/bytealg.IndexString", "internal/abi.NoEscape"], named := ["internal/bytealg.MaxLen"], apart := false }
def FnModulePathMatchesScannerSaid : Prop := fnModulePathMatchesScannerRow.holds Try.pinned (OpenSpec.ofChange fnModulePathMatchesScannerSpec)

/-- ITS FALSE NEIGHBOUR: 'it returns false'. Refute it at one input. -/
def fnModulePathMatchesScannerWrong : ChangeSpec := { name := "fnModulePathMatchesScanner", fn := fun _ => fun
  | [d] => { results := [.lit (.bool false)], args := [d] }
  | _ => none }
def FnModulePathMatchesScannerWrongFalsely : Prop := fnModulePathMatchesScannerRow.holds Try.pinned (OpenSpec.ofChange fnModulePathMatchesScannerWrong)

/-- 'zzlaws_plan_b1.FnModulePathReadsComposedAddress': WHATEVER THE INPUT: true; the input reads as it did. -/
def fnModulePathReadsComposedAddressSpec : ChangeSpec := { name := "fnModulePathReadsComposedAddress", fn := fun _ => fun
  | [d] => { results := [.lit (.bool true)], args := [d] }
  | _ => none }
def fnModulePathReadsComposedAddressRow : OpenClaim := { program := "qxb6605297a", sum := "930db5169fc6b828b2fdc007e608d3ed77d6880a338577e8a1a5aeaac3799755", func := "example.com/keelguard/keelguard/zzlaws_plan_b1.FnModulePathReadsComposedAddress", spec := "fnModulePathReadsComposedAddress", inPlace := ["internal/bytealg.IndexByteString", "internal/bytealg.IndexString", "internal/abi.NoEscape"], named := ["internal/bytealg.MaxLen"], apart := false }
def FnModulePathReadsComposedAddressSaid : Prop := fnModulePathReadsComposedAddressRow.holds Try.pinned (OpenSpec.ofChange fnModulePathReadsComposedAddressSpec)

/-- ITS FALSE NEIGHBOUR: 'it returns false'. Refute it at one input. -/
def fnModulePathReadsComposedAddressWrong : ChangeSpec := { name := "fnModulePathReadsComposedAddress", fn := fun _ => fun
  | [d] => { results := [.lit (.bool false)], args := [d] }
  | _ => none }
def FnModulePathReadsComposedAddressWrongFalsely : Prop := fnModulePathReadsComposedAddressRow.holds Try.pinned (OpenSpec.ofChange fnModulePathReadsComposedAddressWrong)

end Rows
end Go.Proofs.Qxb6605297a
