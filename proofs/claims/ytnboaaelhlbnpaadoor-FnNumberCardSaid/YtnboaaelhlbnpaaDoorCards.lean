/-
  DERIVED. GIVEN WITH THE SEED: THE CARDS: each row of YtnboaaelhlbnpaaDoorRows.lean that lists a variable, with what it lists TIED to the program's text (the seventh form; the later family's looks); each row that meets fmt, with fmt's text TOLD by the authors' own Lean function (tested against real Go, not proved from fmt's source: count such statements apart). THE CARD IS WHAT COUNTS. Prove the row's statement (the work); the ties are given (YtnboaaelhlbnpaaDoorTie.lean); close each card by the builder's one call (the guide's Derived/Test/ToyasCard.lean, 'card_holds'). Laid BY PROGRAM, IN A SANDBOX (cutbox-door.mjs). By AI agents, Wed Nov 11 2026. No macro, syntax, notation, axiom, sorry.
-/
import Derived.Test.YtnboaaelhlbnpaaDoorRows
import GoSem.ClaimSeven
namespace Go.Proofs.YtnboaaelhlbnpaaDoor
namespace Rows

/-- THE TIED CARD OF 'laws.FnExponent'. -/
def fnExponentCard : Claim7 := { stood := { row := fnExponentRow, standIns := [], harness := (true, "2a9e5c1ce44c163712b790fc087c5ded4168eb817126a184cd98d733842abcaa"), looks := false }, kinds := [], alts := [], laidByText := true, laidKinds := [.data, .listed, .data, .data, .data, .pinned, .pinned], laidTests := true, laidLooks := .later }
def FnExponentCardSaid : Prop := Claim7.holds Tryd.pinned (.plain (OpenSpec.ofChange fnExponentSpec)) fnExponentCard

/-- THE TIED CARD OF 'laws.FnNumber'. -/
def fnNumberCard : Claim7 := { stood := { row := fnNumberRow, standIns := [], harness := (true, "2a9e5c1ce44c163712b790fc087c5ded4168eb817126a184cd98d733842abcaa"), looks := false }, kinds := [], alts := [], laidByText := true, laidKinds := [.data, .listed, .data, .data, .data, .pinned, .pinned], laidTests := true, laidLooks := .later }
def FnNumberCardSaid : Prop := Claim7.holds Tryd.pinned (.plain (OpenSpec.ofChange fnNumberSpec)) fnNumberCard

/-- THE SECOND FORM's CARD OF 'laws.FnExponent'. -/
def fnExponentUptoCard : Claim7 := { stood := { row := fnExponentUptoRow, standIns := [], harness := (true, "2a9e5c1ce44c163712b790fc087c5ded4168eb817126a184cd98d733842abcaa"), looks := false }, kinds := [], alts := [], laidByText := true, laidKinds := [.data, .listed, .data, .data, .data, .pinned, .pinned], laidTests := true, laidLooks := .later }
def FnExponentUptoCardSaid : Prop := Claim7.holds Tryd.pinned (.plain (OpenSpec.upto fnExponentSpec)) fnExponentUptoCard

/-- THE SECOND FORM's CARD OF 'laws.FnNumber'. -/
def fnNumberUptoCard : Claim7 := { stood := { row := fnNumberUptoRow, standIns := [], harness := (true, "2a9e5c1ce44c163712b790fc087c5ded4168eb817126a184cd98d733842abcaa"), looks := false }, kinds := [], alts := [], laidByText := true, laidKinds := [.data, .listed, .data, .data, .data, .pinned, .pinned], laidTests := true, laidLooks := .later }
def FnNumberUptoCardSaid : Prop := Claim7.holds Tryd.pinned (.plain (OpenSpec.upto fnNumberSpec)) fnNumberUptoCard
end Rows
end Go.Proofs.YtnboaaelhlbnpaaDoor
