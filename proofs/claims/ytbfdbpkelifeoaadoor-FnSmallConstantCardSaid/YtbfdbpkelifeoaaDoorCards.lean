/-
  DERIVED. GIVEN WITH THE SEED: THE CARDS: each row of YtbfdbpkelifeoaaDoorRows.lean that lists a variable, with what it lists TIED to the program's text (the seventh form; the later family's looks); each row that meets fmt, with fmt's text TOLD by the authors' own Lean function (tested against real Go, not proved from fmt's source: count such statements apart). THE CARD IS WHAT COUNTS. Prove the row's statement (the work); the ties are given (YtbfdbpkelifeoaaDoorTie.lean); close each card by the builder's one call (the guide's Derived/Test/ToyasCard.lean, 'card_holds'). Laid BY PROGRAM, IN A SANDBOX (cutbox-door.mjs). By AI agents, Wed Nov 11 2026. No macro, syntax, notation, axiom, sorry.
-/
import Derived.Test.YtbfdbpkelifeoaaDoorRows
import GoSem.ClaimSeven
namespace Go.Proofs.YtbfdbpkelifeoaaDoor
namespace Rows

/-- THE TIED CARD OF 'laws.FnSmallConstant'. -/
def fnSmallConstantCard : Claim7 := { stood := { row := fnSmallConstantRow, standIns := [], harness := (true, "21ef7b4d640b7ddd0c8b78d5341d26466d3ecdbecde89dc1aca4db045225c1b1"), looks := false }, kinds := [], alts := [], laidByText := true, laidKinds := [.data], laidTests := true, laidLooks := .later }
def FnSmallConstantCardSaid : Prop := Claim7.holds Tryd.pinned (.plain (OpenSpec.ofChange fnSmallConstantSpec)) fnSmallConstantCard

/-- THE SECOND FORM's CARD OF 'laws.FnSmallConstant'. -/
def fnSmallConstantUptoCard : Claim7 := { stood := { row := fnSmallConstantUptoRow, standIns := [], harness := (true, "21ef7b4d640b7ddd0c8b78d5341d26466d3ecdbecde89dc1aca4db045225c1b1"), looks := false }, kinds := [], alts := [], laidByText := true, laidKinds := [.data], laidTests := true, laidLooks := .later }
def FnSmallConstantUptoCardSaid : Prop := Claim7.holds Tryd.pinned (.plain (OpenSpec.upto fnSmallConstantSpec)) fnSmallConstantUptoCard
end Rows
end Go.Proofs.YtbfdbpkelifeoaaDoor
