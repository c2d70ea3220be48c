/-
  DERIVED. GIVEN WITH THE SEED: THE CARDS: each row of YtcllhgajdcemiaaGreatDoorRows.lean that lists a variable, with what it lists TIED to the program's text (the seventh form; the later family's looks); each row that meets fmt, with fmt's text TOLD by the authors' own Lean function (tested against real Go, not proved from fmt's source: count such statements apart). THE CARD IS WHAT COUNTS. Prove the row's statement (the work); the ties are given (YtcllhgajdcemiaaGreatDoorTie.lean); close each card by the builder's one call (the guide's Derived/Test/ToyasCard.lean, 'card_holds'). Laid BY PROGRAM, IN A SANDBOX (cutbox-door.mjs). By AI agents, Wed Nov 11 2026. No macro, syntax, notation, axiom, sorry.
-/
import Derived.Test.YtcllhgajdcemiaaGreatDoorRows
import GoSem.ClaimSeven
namespace Go.Proofs.YtcllhgajdcemiaaGreatDoor
namespace Rows

/-- THE TIED CARD OF 'laws.FnJSONBack'. -/
def fnJSONBackCard : Claim7 := { stood := { row := fnJSONBackRow, standIns := [], harness := (true, "9f6ed373d00a8f37880ff2b40ffbc3be781ebf61b915125233c9db6667164d47"), looks := false }, kinds := [], alts := [], laidByText := true, laidKinds := [.data, .data, .data, .data, .listed, .data, .data, .pinned, .pinned, .pinned, .pinned, .pinned, .pinned], laidTests := true, laidLooks := .later }
def FnJSONBackCardSaid : Prop := Claim7.holds Tryz.pinned (.plain (OpenSpec.ofChange fnJSONBackSpec)) fnJSONBackCard

/-- THE TIED CARD OF 'laws.FnJSONMore'. -/
def fnJSONMoreCard : Claim7 := { stood := { row := fnJSONMoreRow, standIns := [], harness := (true, "9f6ed373d00a8f37880ff2b40ffbc3be781ebf61b915125233c9db6667164d47"), looks := false }, kinds := [], alts := [], laidByText := true, laidKinds := [.data, .data, .data, .data, .listed, .data, .data, .pinned, .pinned, .pinned, .pinned, .pinned, .pinned], laidTests := true, laidLooks := .later }
def FnJSONMoreCardSaid : Prop := Claim7.holds Tryz.pinned (.plain (OpenSpec.ofChange fnJSONMoreSpec)) fnJSONMoreCard

/-- THE SECOND FORM's CARD OF 'laws.FnJSONBack'. -/
def fnJSONBackUptoCard : Claim7 := { stood := { row := fnJSONBackUptoRow, standIns := [], harness := (true, "9f6ed373d00a8f37880ff2b40ffbc3be781ebf61b915125233c9db6667164d47"), looks := false }, kinds := [], alts := [], laidByText := true, laidKinds := [.data, .data, .data, .data, .listed, .data, .data, .pinned, .pinned, .pinned, .pinned, .pinned, .pinned], laidTests := true, laidLooks := .later }
def FnJSONBackUptoCardSaid : Prop := Claim7.holds Tryz.pinned (.plain (OpenSpec.upto fnJSONBackSpec)) fnJSONBackUptoCard

/-- THE SECOND FORM's CARD OF 'laws.FnJSONMore'. -/
def fnJSONMoreUptoCard : Claim7 := { stood := { row := fnJSONMoreUptoRow, standIns := [], harness := (true, "9f6ed373d00a8f37880ff2b40ffbc3be781ebf61b915125233c9db6667164d47"), looks := false }, kinds := [], alts := [], laidByText := true, laidKinds := [.data, .data, .data, .data, .listed, .data, .data, .pinned, .pinned, .pinned, .pinned, .pinned, .pinned], laidTests := true, laidLooks := .later }
def FnJSONMoreUptoCardSaid : Prop := Claim7.holds Tryz.pinned (.plain (OpenSpec.upto fnJSONMoreSpec)) fnJSONMoreUptoCard
end Rows
end Go.Proofs.YtcllhgajdcemiaaGreatDoor
