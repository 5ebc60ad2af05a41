/-
  DERIVED. GIVEN WITH THE SEED: THE CARDS: each row of YtcggmabpbbieaaaDoorRows.lean that lists a variable, with what it lists TIED to the program's text (the seventh form; the later family's looks); each row that meets fmt, with fmt's text TOLD by the authors' own Lean function (tested against real Go, not proved from fmt's source: count such statements apart). THE CARD IS WHAT COUNTS. Prove the row's statement (the work); the ties are given (YtcggmabpbbieaaaDoorTie.lean); close each card by the builder's one call (the guide's Derived/Test/ToyasCard.lean, 'card_holds'). Laid BY PROGRAM, IN A SANDBOX (cutbox-door.mjs). By AI agents, Wed Nov 11 2026. No macro, syntax, notation, axiom, sorry.
-/
import Derived.Test.YtcggmabpbbieaaaDoorRows
import GoSem.ClaimSeven
namespace Go.Proofs.YtcggmabpbbieaaaDoor
namespace Rows

/-- THE TIED CARD OF 'laws.FnDurationEnds'. -/
def fnDurationEndsCard : Claim7 := { stood := { row := fnDurationEndsRow, standIns := [], harness := (true, "9f63d66bee735dabee3c2eb4a14043780970ce25d801746678117d43527c1200"), looks := false }, kinds := [], alts := [], laidByText := true, laidKinds := [.sentinel], laidTests := true, laidLooks := .later }
def FnDurationEndsCardSaid : Prop := Claim7.holds Tryd.pinned (.plain (OpenSpec.ofChange fnDurationEndsSpec)) fnDurationEndsCard

/-- THE TIED CARD OF 'laws.FnDecimalText'. -/
def fnDecimalTextCard : Claim7 := { stood := { row := fnDecimalTextRow, standIns := [], harness := (true, "9f63d66bee735dabee3c2eb4a14043780970ce25d801746678117d43527c1200"), looks := false }, kinds := [], alts := [], laidByText := true, laidKinds := [.data, .data, .data], laidTests := true, laidLooks := .later }
def FnDecimalTextCardSaid : Prop := Claim7.holds Tryd.pinned (.plain (OpenSpec.ofChange fnDecimalTextSpec)) fnDecimalTextCard

/-- THE TIED CARD OF 'laws.FnDurationText'. -/
def fnDurationTextCard : Claim7 := { stood := { row := fnDurationTextRow, standIns := [], harness := (true, "9f63d66bee735dabee3c2eb4a14043780970ce25d801746678117d43527c1200"), looks := false }, kinds := [], alts := [], laidByText := true, laidKinds := [.data, .data, .data, .sentinel], laidTests := true, laidLooks := .later }
def FnDurationTextCardSaid : Prop := Claim7.holds Tryd.pinned (.plain (OpenSpec.ofChange fnDurationTextSpec)) fnDurationTextCard

/-- THE SECOND FORM's CARD OF 'laws.FnDurationEnds'. -/
def fnDurationEndsUptoCard : Claim7 := { stood := { row := fnDurationEndsUptoRow, standIns := [], harness := (true, "9f63d66bee735dabee3c2eb4a14043780970ce25d801746678117d43527c1200"), looks := false }, kinds := [], alts := [], laidByText := true, laidKinds := [.sentinel], laidTests := true, laidLooks := .later }
def FnDurationEndsUptoCardSaid : Prop := Claim7.holds Tryd.pinned (.plain (OpenSpec.upto fnDurationEndsSpec)) fnDurationEndsUptoCard

/-- THE SECOND FORM's CARD OF 'laws.FnDecimalText'. -/
def fnDecimalTextUptoCard : Claim7 := { stood := { row := fnDecimalTextUptoRow, standIns := [], harness := (true, "9f63d66bee735dabee3c2eb4a14043780970ce25d801746678117d43527c1200"), looks := false }, kinds := [], alts := [], laidByText := true, laidKinds := [.data, .data, .data], laidTests := true, laidLooks := .later }
def FnDecimalTextUptoCardSaid : Prop := Claim7.holds Tryd.pinned (.plain (OpenSpec.upto fnDecimalTextSpec)) fnDecimalTextUptoCard

/-- THE SECOND FORM's CARD OF 'laws.FnDurationText'. -/
def fnDurationTextUptoCard : Claim7 := { stood := { row := fnDurationTextUptoRow, standIns := [], harness := (true, "9f63d66bee735dabee3c2eb4a14043780970ce25d801746678117d43527c1200"), looks := false }, kinds := [], alts := [], laidByText := true, laidKinds := [.data, .data, .data, .sentinel], laidTests := true, laidLooks := .later }
def FnDurationTextUptoCardSaid : Prop := Claim7.holds Tryd.pinned (.plain (OpenSpec.upto fnDurationTextSpec)) fnDurationTextUptoCard
end Rows
end Go.Proofs.YtcggmabpbbieaaaDoor
