/-
  DERIVED. GIVEN WITH THE SEED: THE CARDS: each row of YtiebbonpimmljaaDoorRows.lean that lists a variable, with what it lists TIED to the program's text (the seventh form; the later family's looks); each row that meets fmt, with fmt's text TOLD by the authors' own Lean function (tested against real Go, not proved from fmt's source: count such statements apart). THE CARD IS WHAT COUNTS. Prove the row's statement (the work); the ties are given (YtiebbonpimmljaaDoorTie.lean); close each card by the builder's one call (the guide's Derived/Test/ToyasCard.lean, 'card_holds'). Laid BY PROGRAM, IN A SANDBOX (cutbox-door.mjs). By AI agents, Wed Nov 11 2026. No macro, syntax, notation, axiom, sorry.
-/
import Derived.Test.YtiebbonpimmljaaDoorRows
import GoSem.ClaimSeven
namespace Go.Proofs.YtiebbonpimmljaaDoor
namespace Rows

/-- THE TIED CARD OF 'laws.FnString'. -/
def fnStringCard : Claim7 := { stood := { row := fnStringRow, standIns := [], harness := (true, "216b234a71f0b685513ad9b15ac2110d1cc30d8a61198c1ebf156ecb7e300bb7"), looks := false }, kinds := [], alts := [], laidByText := true, laidKinds := [.data, .data, .data], laidTests := true, laidLooks := .later }
def FnStringCardSaid : Prop := Claim7.holds Tryd.pinned (.plain (OpenSpec.ofChange fnStringSpec)) fnStringCard

/-- THE TIED CARD OF 'laws.FnStringsDiffer'. -/
def fnStringsDifferCard : Claim7 := { stood := { row := fnStringsDifferRow, standIns := [], harness := (true, "216b234a71f0b685513ad9b15ac2110d1cc30d8a61198c1ebf156ecb7e300bb7"), looks := false }, kinds := [], alts := [], laidByText := true, laidKinds := [.data, .data, .data], laidTests := true, laidLooks := .later }
def FnStringsDifferCardSaid : Prop := Claim7.holds Tryd.pinned (.plain (OpenSpec.ofChange fnStringsDifferSpec)) fnStringsDifferCard

/-- THE SECOND FORM's CARD OF 'laws.FnString'. -/
def fnStringUptoCard : Claim7 := { stood := { row := fnStringUptoRow, standIns := [], harness := (true, "216b234a71f0b685513ad9b15ac2110d1cc30d8a61198c1ebf156ecb7e300bb7"), looks := false }, kinds := [], alts := [], laidByText := true, laidKinds := [.data, .data, .data], laidTests := true, laidLooks := .later }
def FnStringUptoCardSaid : Prop := Claim7.holds Tryd.pinned (.plain (OpenSpec.upto fnStringSpec)) fnStringUptoCard

/-- THE SECOND FORM's CARD OF 'laws.FnStringsDiffer'. -/
def fnStringsDifferUptoCard : Claim7 := { stood := { row := fnStringsDifferUptoRow, standIns := [], harness := (true, "216b234a71f0b685513ad9b15ac2110d1cc30d8a61198c1ebf156ecb7e300bb7"), looks := false }, kinds := [], alts := [], laidByText := true, laidKinds := [.data, .data, .data], laidTests := true, laidLooks := .later }
def FnStringsDifferUptoCardSaid : Prop := Claim7.holds Tryd.pinned (.plain (OpenSpec.upto fnStringsDifferSpec)) fnStringsDifferUptoCard
end Rows
end Go.Proofs.YtiebbonpimmljaaDoor
