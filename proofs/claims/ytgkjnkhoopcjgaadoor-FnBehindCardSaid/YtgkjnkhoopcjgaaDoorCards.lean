/-
  DERIVED. GIVEN WITH THE SEED: THE CARDS: each row of YtgkjnkhoopcjgaaDoorRows.lean that lists a variable, with what it lists TIED to the program's text (the seventh form; the later family's looks); each row that meets fmt, with fmt's text TOLD by the authors' own Lean function (tested against real Go, not proved from fmt's source: count such statements apart). THE CARD IS WHAT COUNTS. Prove the row's statement (the work); the ties are given (YtgkjnkhoopcjgaaDoorTie.lean); close each card by the builder's one call (the guide's Derived/Test/ToyasCard.lean, 'card_holds'). Laid BY PROGRAM, IN A SANDBOX (cutbox-door.mjs). By AI agents, Wed Nov 11 2026. No macro, syntax, notation, axiom, sorry.
-/
import Derived.Test.YtgkjnkhoopcjgaaDoorRows
import GoSem.ClaimSeven
namespace Go.Proofs.YtgkjnkhoopcjgaaDoor
namespace Rows

/-- THE TIED CARD OF 'laws.FnAny'. -/
def fnAnyCard : Claim7 := { stood := { row := fnAnyRow, standIns := [], harness := (true, "3e6f3c8c779c3b3322a8c81e006d2743ee20eabb8514097e4a585c64d8ae9292"), looks := true }, kinds := [], alts := [], laidByText := true, laidKinds := [.sentinel, .sentinel, .sentinel, .sentinel, .sentinel], laidTests := true, laidLooks := .later }
def FnAnyCardSaid : Prop := Claim7.holds Tryd.pinned (.plain (OpenSpec.ofChange fnAnySpec)) fnAnyCard

/-- THE TIED CARD OF 'laws.FnBehind'. -/
def fnBehindCard : Claim7 := { stood := { row := fnBehindRow, standIns := [], harness := (true, "3e6f3c8c779c3b3322a8c81e006d2743ee20eabb8514097e4a585c64d8ae9292"), looks := true }, kinds := [], alts := [], laidByText := true, laidKinds := [.sentinel, .sentinel, .sentinel, .sentinel, .sentinel], laidTests := true, laidLooks := .later }
def FnBehindCardSaid : Prop := Claim7.holds Tryd.pinned (.plain (OpenSpec.ofChange fnBehindSpec)) fnBehindCard

/-- THE SECOND FORM's CARD OF 'laws.FnAny'. -/
def fnAnyUptoCard : Claim7 := { stood := { row := fnAnyUptoRow, standIns := [], harness := (true, "3e6f3c8c779c3b3322a8c81e006d2743ee20eabb8514097e4a585c64d8ae9292"), looks := true }, kinds := [], alts := [], laidByText := true, laidKinds := [.sentinel, .sentinel, .sentinel, .sentinel, .sentinel], laidTests := true, laidLooks := .later }
def FnAnyUptoCardSaid : Prop := Claim7.holds Tryd.pinned (.plain (OpenSpec.upto fnAnySpec)) fnAnyUptoCard

/-- THE SECOND FORM's CARD OF 'laws.FnBehind'. -/
def fnBehindUptoCard : Claim7 := { stood := { row := fnBehindUptoRow, standIns := [], harness := (true, "3e6f3c8c779c3b3322a8c81e006d2743ee20eabb8514097e4a585c64d8ae9292"), looks := true }, kinds := [], alts := [], laidByText := true, laidKinds := [.sentinel, .sentinel, .sentinel, .sentinel, .sentinel], laidTests := true, laidLooks := .later }
def FnBehindUptoCardSaid : Prop := Claim7.holds Tryd.pinned (.plain (OpenSpec.upto fnBehindSpec)) fnBehindUptoCard
end Rows
end Go.Proofs.YtgkjnkhoopcjgaaDoor
