/-
  DERIVED. GIVEN WITH THE SEED: THE CARDS: each row of YtcbmphomacbmmaaDoorRows.lean that lists a variable, with what it lists TIED to the program's text (the seventh form; the later family's looks); each row that meets fmt, with fmt's text TOLD by the authors' own Lean function (tested against real Go, not proved from fmt's source: count such statements apart). THE CARD IS WHAT COUNTS. Prove the row's statement (the work); the ties are given (YtcbmphomacbmmaaDoorTie.lean); close each card by the builder's one call (the guide's Derived/Test/ToyasCard.lean, 'card_holds'). Laid BY PROGRAM, IN A SANDBOX (cutbox-door.mjs). By AI agents, Wed Nov 11 2026. No macro, syntax, notation, axiom, sorry.
-/
import Derived.Test.YtcbmphomacbmmaaDoorRows
import GoSem.ClaimSeven
namespace Go.Proofs.YtcbmphomacbmmaaDoor
namespace Rows

/-- THE TIED CARD OF 'laws.FnLevel'. -/
def fnLevelCard : Claim7 := { stood := { row := fnLevelRow, standIns := [], harness := (true, "eb36a468148418ba62d8f53850fab349f376340caab5df14b9c9ce5bbc78476f"), looks := false }, kinds := [], alts := [], laidByText := true, laidKinds := [.data, .data, .data, .data, .listed, .data, .data, .pinned, .pinned, .pinned, .pinned, .pinned, .pinned], laidTests := true, laidLooks := .later }
def FnLevelCardSaid : Prop := Claim7.holds Tryd.pinned (.plain (OpenSpec.ofChange fnLevelSpec)) fnLevelCard

/-- THE SECOND FORM's CARD OF 'laws.FnLevel'. -/
def fnLevelUptoCard : Claim7 := { stood := { row := fnLevelUptoRow, standIns := [], harness := (true, "eb36a468148418ba62d8f53850fab349f376340caab5df14b9c9ce5bbc78476f"), looks := false }, kinds := [], alts := [], laidByText := true, laidKinds := [.data, .data, .data, .data, .listed, .data, .data, .pinned, .pinned, .pinned, .pinned, .pinned, .pinned], laidTests := true, laidLooks := .later }
def FnLevelUptoCardSaid : Prop := Claim7.holds Tryd.pinned (.plain (OpenSpec.upto fnLevelSpec)) fnLevelUptoCard
end Rows
end Go.Proofs.YtcbmphomacbmmaaDoor
