/-
  DERIVED. GIVEN WITH THE SEED: THE CARDS: each row of YtljnooljfbokoaaDoorRows.lean that lists a variable, with what it lists TIED to the program's text (the seventh form; the later family's looks); each row that meets fmt, with fmt's text TOLD by the authors' own Lean function (tested against real Go, not proved from fmt's source: count such statements apart). THE CARD IS WHAT COUNTS. Prove the row's statement (the work); the ties are given (YtljnooljfbokoaaDoorTie.lean); close each card by the builder's one call (the guide's Derived/Test/ToyasCard.lean, 'card_holds'). Laid BY PROGRAM, IN A SANDBOX (cutbox-door.mjs). By AI agents, Wed Nov 11 2026. No macro, syntax, notation, axiom, sorry.
-/
import Derived.Test.YtljnooljfbokoaaDoorRows
import GoSem.ClaimSeven
namespace Go.Proofs.YtljnooljfbokoaaDoor
namespace Rows

/-- THE TIED CARD OF 'laws.FnParseEscaped'. -/
def fnParseEscapedCard : Claim7 := { stood := { row := fnParseEscapedRow, standIns := [], harness := (true, "8c38b158a52c677be220eebe37728f11186e9cb1cfe12ee9d99b7c792a6b95b3"), looks := false }, kinds := [], alts := [], laidByText := true, laidKinds := [.data], laidTests := true, laidLooks := .later }
def FnParseEscapedCardSaid : Prop := Claim7.holds Tryd.pinned (.plain (OpenSpec.ofChange fnParseEscapedSpec)) fnParseEscapedCard

/-- THE TIED CARD OF 'laws.FnPathBack'. -/
def fnPathBackCard : Claim7 := { stood := { row := fnPathBackRow, standIns := [], harness := (true, "8c38b158a52c677be220eebe37728f11186e9cb1cfe12ee9d99b7c792a6b95b3"), looks := false }, kinds := [], alts := [], laidByText := true, laidKinds := [.data], laidTests := true, laidLooks := .later }
def FnPathBackCardSaid : Prop := Claim7.holds Tryd.pinned (.plain (OpenSpec.ofChange fnPathBackSpec)) fnPathBackCard

/-- THE SECOND FORM's CARD OF 'laws.FnParseEscaped'. -/
def fnParseEscapedUptoCard : Claim7 := { stood := { row := fnParseEscapedUptoRow, standIns := [], harness := (true, "8c38b158a52c677be220eebe37728f11186e9cb1cfe12ee9d99b7c792a6b95b3"), looks := false }, kinds := [], alts := [], laidByText := true, laidKinds := [.data], laidTests := true, laidLooks := .later }
def FnParseEscapedUptoCardSaid : Prop := Claim7.holds Tryd.pinned (.plain (OpenSpec.upto fnParseEscapedSpec)) fnParseEscapedUptoCard

/-- THE SECOND FORM's CARD OF 'laws.FnPathBack'. -/
def fnPathBackUptoCard : Claim7 := { stood := { row := fnPathBackUptoRow, standIns := [], harness := (true, "8c38b158a52c677be220eebe37728f11186e9cb1cfe12ee9d99b7c792a6b95b3"), looks := false }, kinds := [], alts := [], laidByText := true, laidKinds := [.data], laidTests := true, laidLooks := .later }
def FnPathBackUptoCardSaid : Prop := Claim7.holds Tryd.pinned (.plain (OpenSpec.upto fnPathBackSpec)) fnPathBackUptoCard
end Rows
end Go.Proofs.YtljnooljfbokoaaDoor
