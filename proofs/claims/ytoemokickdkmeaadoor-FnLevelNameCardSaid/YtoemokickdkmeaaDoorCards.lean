/-
  DERIVED. GIVEN WITH THE SEED: THE CARDS: each row of YtoemokickdkmeaaDoorRows.lean that lists a variable, with what it lists TIED to the program's text (the seventh form; the later family's looks); each row that meets fmt, with fmt's text TOLD by the authors' own Lean function (tested against real Go, not proved from fmt's source: count such statements apart). THE CARD IS WHAT COUNTS. Prove the row's statement (the work); the ties are given (YtoemokickdkmeaaDoorTie.lean); close each card by the builder's one call (the guide's Derived/Test/ToyasCard.lean, 'card_holds'). Laid BY PROGRAM, IN A SANDBOX (cutbox-door.mjs). By AI agents, Wed Nov 11 2026. No macro, syntax, notation, axiom, sorry.
-/
import Derived.Test.YtoemokickdkmeaaDoorRows
import GoSem.ClaimSeven
namespace Go.Proofs.YtoemokickdkmeaaDoor
namespace Rows

/-- THE TIED CARD OF 'laws.FnLevelName'. -/
def fnLevelNameCard : Claim7 := { stood := { row := fnLevelNameRow, standIns := [], harness := (true, "60cbc426b1ad532d298ef958860e03b8b4a3fbc1aaa7bcd1928c3bd547b4d16c"), looks := false }, kinds := [], alts := [], laidByText := true, laidKinds := [.data, .data, .data], laidTests := true, laidLooks := .later }
def FnLevelNameCardSaid : Prop := Claim7.holds Tryd.pinned (.plain (OpenSpec.ofChange fnLevelNameSpec)) fnLevelNameCard

/-- THE SECOND FORM's CARD OF 'laws.FnLevelName'. -/
def fnLevelNameUptoCard : Claim7 := { stood := { row := fnLevelNameUptoRow, standIns := [], harness := (true, "60cbc426b1ad532d298ef958860e03b8b4a3fbc1aaa7bcd1928c3bd547b4d16c"), looks := false }, kinds := [], alts := [], laidByText := true, laidKinds := [.data, .data, .data], laidTests := true, laidLooks := .later }
def FnLevelNameUptoCardSaid : Prop := Claim7.holds Tryd.pinned (.plain (OpenSpec.upto fnLevelNameSpec)) fnLevelNameUptoCard
end Rows
end Go.Proofs.YtoemokickdkmeaaDoor
