/-
  DERIVED. GIVEN WITH THE SEED: THE CARDS: each row of YtjcjappbopjgkaaDoorRows.lean that lists a variable, with what it lists TIED to the program's text (the seventh form; the later family's looks); each row that meets fmt, with fmt's text TOLD by the authors' own Lean function (tested against real Go, not proved from fmt's source: count such statements apart). THE CARD IS WHAT COUNTS. Prove the row's statement (the work); the ties are given (YtjcjappbopjgkaaDoorTie.lean); close each card by the builder's one call (the guide's Derived/Test/ToyasCard.lean, 'card_holds'). Laid BY PROGRAM, IN A SANDBOX (cutbox-door.mjs). By AI agents, Wed Nov 11 2026. No macro, syntax, notation, axiom, sorry.
-/
import Derived.Test.YtjcjappbopjgkaaDoorRows
import GoSem.ClaimSeven
namespace Go.Proofs.YtjcjappbopjgkaaDoor
namespace Rows

/-- THE TIED CARD OF 'laws.FnDecimalMakes'. -/
def fnDecimalMakesCard : Claim7 := { stood := { row := fnDecimalMakesRow, standIns := [], harness := (true, "b319c691d92dbe36c09d405ada93c5fcc03749dcef81f27bd44d5885a8e7beb9"), looks := false }, kinds := [], alts := [], laidByText := true, laidKinds := [.data, .data, .data, .sentinel], laidTests := true, laidLooks := .later }
def FnDecimalMakesCardSaid : Prop := Claim7.holds Tryd.pinned (.plain (OpenSpec.ofChange fnDecimalMakesSpec)) fnDecimalMakesCard

/-- THE SECOND FORM's CARD OF 'laws.FnDecimalMakes'. -/
def fnDecimalMakesUptoCard : Claim7 := { stood := { row := fnDecimalMakesUptoRow, standIns := [], harness := (true, "b319c691d92dbe36c09d405ada93c5fcc03749dcef81f27bd44d5885a8e7beb9"), looks := false }, kinds := [], alts := [], laidByText := true, laidKinds := [.data, .data, .data, .sentinel], laidTests := true, laidLooks := .later }
def FnDecimalMakesUptoCardSaid : Prop := Claim7.holds Tryd.pinned (.plain (OpenSpec.upto fnDecimalMakesSpec)) fnDecimalMakesUptoCard
end Rows
end Go.Proofs.YtjcjappbopjgkaaDoor
