/-
  DERIVED. GIVEN WITH THE SEED: THE CARDS: each row of Qxb6606184aDoorRows.lean that lists a variable, with what it lists TIED to the program's text (the seventh form; the later family's looks); each row that meets fmt, with fmt's text TOLD by the authors' own Lean function (tested against real Go, not proved from fmt's source: count such statements apart). THE CARD IS WHAT COUNTS. Prove the row's statement (the work); the ties are given (Qxb6606184aDoorTie.lean); close each card by the builder's one call (the guide's Derived/Test/ToyasCard.lean, 'card_holds'). Laid BY PROGRAM, IN A SANDBOX (cutbox-door.mjs). By AI agents, Wed Nov 11 2026. No macro, syntax, notation, axiom, sorry.
-/
import Derived.Test.Qxb6606184aDoorRows
import GoSem.ClaimSeven
namespace Go.Proofs.Qxb6606184aDoor
namespace Rows

/-- THE TIED CARD OF 'zzlaws_internal_engine_b1.FnCommentMatchesModel'. -/
def fnCommentMatchesModelCard : Claim7 := { stood := { row := fnCommentMatchesModelRow, standIns := [], harness := (true, "b136783daa1802d40b3fafa25fb2fd7890398e9bf0ea671a1141364e620be80a"), looks := true }, kinds := [], alts := [], laidByText := true, laidKinds := [.data, .data, .data, .sentinel, .sentinel], laidTests := true, laidLooks := .later }
def FnCommentMatchesModelCardSaid : Prop := Claim7.holds Tryd.pinned (.plain (OpenSpec.ofChange fnCommentMatchesModelSpec)) fnCommentMatchesModelCard

/-- THE TIED CARD OF 'zzlaws_internal_engine_b1.FnCommentClosedIgnoresWhatFollows'. -/
def fnCommentClosedIgnoresWhatFollowsCard : Claim7 := { stood := { row := fnCommentClosedIgnoresWhatFollowsRow, standIns := [], harness := (true, "b136783daa1802d40b3fafa25fb2fd7890398e9bf0ea671a1141364e620be80a"), looks := true }, kinds := [], alts := [], laidByText := true, laidKinds := [.data, .data, .data, .sentinel, .sentinel], laidTests := true, laidLooks := .later }
def FnCommentClosedIgnoresWhatFollowsCardSaid : Prop := Claim7.holds Tryd.pinned (.plain (OpenSpec.ofChange fnCommentClosedIgnoresWhatFollowsSpec)) fnCommentClosedIgnoresWhatFollowsCard

/-- THE TIED CARD OF 'zzlaws_internal_engine_b1.FnCommentOpenStaysOpenWhenCut'. -/
def fnCommentOpenStaysOpenWhenCutCard : Claim7 := { stood := { row := fnCommentOpenStaysOpenWhenCutRow, standIns := [], harness := (true, "b136783daa1802d40b3fafa25fb2fd7890398e9bf0ea671a1141364e620be80a"), looks := true }, kinds := [], alts := [], laidByText := true, laidKinds := [.data, .data, .data, .sentinel, .sentinel], laidTests := true, laidLooks := .later }
def FnCommentOpenStaysOpenWhenCutCardSaid : Prop := Claim7.holds Tryd.pinned (.plain (OpenSpec.ofChange fnCommentOpenStaysOpenWhenCutSpec)) fnCommentOpenStaysOpenWhenCutCard

/-- THE TIED CARD OF 'zzlaws_internal_engine_b1.FnBlockCommentMatchesModel'. -/
def fnBlockCommentMatchesModelCard : Claim7 := { stood := { row := fnBlockCommentMatchesModelRow, standIns := [], harness := (true, "b136783daa1802d40b3fafa25fb2fd7890398e9bf0ea671a1141364e620be80a"), looks := true }, kinds := [], alts := [], laidByText := true, laidKinds := [.data, .data, .data, .sentinel, .sentinel], laidTests := true, laidLooks := .later }
def FnBlockCommentMatchesModelCardSaid : Prop := Claim7.holds Tryd.pinned (.plain (OpenSpec.ofChange fnBlockCommentMatchesModelSpec)) fnBlockCommentMatchesModelCard
end Rows
end Go.Proofs.Qxb6606184aDoor
