/-
  DERIVED. GIVEN WITH THE SEED: THE CARDS: each row of YtiidebhepilgiaaDoorRRows.lean that lists a variable, with what it lists TIED to the program's text (the seventh form; the later family's looks); each row that meets fmt, with fmt's text TOLD by the authors' own Lean function (tested against real Go, not proved from fmt's source: count such statements apart). THE CARD IS WHAT COUNTS. Prove the row's statement (the work); the ties are given (YtiidebhepilgiaaDoorRTie.lean); close each card by the builder's one call (the guide's Derived/Test/ToyasCard.lean, 'card_holds'). Laid BY PROGRAM, IN A SANDBOX (cutbox-door.mjs). By AI agents, Wed Nov 11 2026. No macro, syntax, notation, axiom, sorry.
-/
import Derived.Test.YtiidebhepilgiaaDoorRRows
import GoSem.ClaimSeven
namespace Go.Proofs.YtiidebhepilgiaaDoorR
namespace Rows

/-- THE TIED CARD OF 'laws.FnUnescapeSign'. -/
def fnUnescapeSignCard : Claim7 := { stood := { row := fnUnescapeSignRow, standIns := [], harness := (true, "9d88d95b6f88b79e1574d427077a37e52e7828516597d923c3cb240e7426fa3b"), looks := true }, kinds := [], alts := [], laidByText := true, laidKinds := [.data, .pinned], laidTests := true, laidLooks := .later }
def FnUnescapeSignCardSaid : Prop := Claim7.holds Tryd.pinned (.plain (OpenSpec.ofChange fnUnescapeSignSpec)) fnUnescapeSignCard

/-- THE TIED CARD OF 'laws.FnTokenInt'. -/
def fnTokenIntCard : Claim7 := { stood := { row := fnTokenIntRow, standIns := [], harness := (true, "9d88d95b6f88b79e1574d427077a37e52e7828516597d923c3cb240e7426fa3b"), looks := true }, kinds := [], alts := [], laidByText := true, laidKinds := [.data, .sentinel, .sentinel, .pinned], laidTests := true, laidLooks := .later }
def FnTokenIntCardSaid : Prop := Claim7.holds Tryd.pinned (.plain (OpenSpec.ofChange fnTokenIntSpec)) fnTokenIntCard

/-- THE SECOND FORM's CARD OF 'laws.FnUnescapeSign'. -/
def fnUnescapeSignUptoCard : Claim7 := { stood := { row := fnUnescapeSignUptoRow, standIns := [], harness := (true, "9d88d95b6f88b79e1574d427077a37e52e7828516597d923c3cb240e7426fa3b"), looks := true }, kinds := [], alts := [], laidByText := true, laidKinds := [.data, .pinned], laidTests := true, laidLooks := .later }
def FnUnescapeSignUptoCardSaid : Prop := Claim7.holds Tryd.pinned (.plain (OpenSpec.upto fnUnescapeSignSpec)) fnUnescapeSignUptoCard

/-- THE SECOND FORM's CARD OF 'laws.FnTokenInt'. -/
def fnTokenIntUptoCard : Claim7 := { stood := { row := fnTokenIntUptoRow, standIns := [], harness := (true, "9d88d95b6f88b79e1574d427077a37e52e7828516597d923c3cb240e7426fa3b"), looks := true }, kinds := [], alts := [], laidByText := true, laidKinds := [.data, .sentinel, .sentinel, .pinned], laidTests := true, laidLooks := .later }
def FnTokenIntUptoCardSaid : Prop := Claim7.holds Tryd.pinned (.plain (OpenSpec.upto fnTokenIntSpec)) fnTokenIntUptoCard
end Rows
end Go.Proofs.YtiidebhepilgiaaDoorR
