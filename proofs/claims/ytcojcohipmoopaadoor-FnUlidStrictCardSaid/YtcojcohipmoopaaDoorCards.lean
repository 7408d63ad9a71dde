/-
  DERIVED. GIVEN WITH THE SEED: THE CARDS: each row of YtcojcohipmoopaaDoorRows.lean that lists a variable, with what it lists TIED to the program's text (the seventh form; the later family's looks); each row that meets fmt, with fmt's text TOLD by the authors' own Lean function (tested against real Go, not proved from fmt's source: count such statements apart). THE CARD IS WHAT COUNTS. Prove the row's statement (the work); the ties are given (YtcojcohipmoopaaDoorTie.lean); close each card by the builder's one call (the guide's Derived/Test/ToyasCard.lean, 'card_holds'). Laid BY PROGRAM, IN A SANDBOX (cutbox-door.mjs). By AI agents, Wed Nov 11 2026. No macro, syntax, notation, axiom, sorry.
-/
import Derived.Test.YtcojcohipmoopaaDoorRows
import GoSem.ClaimSeven
namespace Go.Proofs.YtcojcohipmoopaaDoor
namespace Rows

/-- THE TIED CARD OF 'laws.FnUlidRead'. -/
def fnUlidReadCard : Claim7 := { stood := { row := fnUlidReadRow, standIns := [], harness := (true, "e71c3861387957069babbe0341428c4d2aeb321a2aa9ebb79c9df8aea4063002"), looks := false }, kinds := [], alts := [], laidByText := true, laidKinds := [.data], laidTests := true, laidLooks := .later }
def FnUlidReadCardSaid : Prop := Claim7.holds Tryd.pinned (.plain (OpenSpec.ofChange fnUlidReadSpec)) fnUlidReadCard

/-- THE TIED CARD OF 'laws.FnUlidStrict'. -/
def fnUlidStrictCard : Claim7 := { stood := { row := fnUlidStrictRow, standIns := [], harness := (true, "e71c3861387957069babbe0341428c4d2aeb321a2aa9ebb79c9df8aea4063002"), looks := false }, kinds := [], alts := [], laidByText := true, laidKinds := [.data], laidTests := true, laidLooks := .later }
def FnUlidStrictCardSaid : Prop := Claim7.holds Tryd.pinned (.plain (OpenSpec.ofChange fnUlidStrictSpec)) fnUlidStrictCard

/-- THE SECOND FORM's CARD OF 'laws.FnUlidRead'. -/
def fnUlidReadUptoCard : Claim7 := { stood := { row := fnUlidReadUptoRow, standIns := [], harness := (true, "e71c3861387957069babbe0341428c4d2aeb321a2aa9ebb79c9df8aea4063002"), looks := false }, kinds := [], alts := [], laidByText := true, laidKinds := [.data], laidTests := true, laidLooks := .later }
def FnUlidReadUptoCardSaid : Prop := Claim7.holds Tryd.pinned (.plain (OpenSpec.upto fnUlidReadSpec)) fnUlidReadUptoCard

/-- THE SECOND FORM's CARD OF 'laws.FnUlidStrict'. -/
def fnUlidStrictUptoCard : Claim7 := { stood := { row := fnUlidStrictUptoRow, standIns := [], harness := (true, "e71c3861387957069babbe0341428c4d2aeb321a2aa9ebb79c9df8aea4063002"), looks := false }, kinds := [], alts := [], laidByText := true, laidKinds := [.data], laidTests := true, laidLooks := .later }
def FnUlidStrictUptoCardSaid : Prop := Claim7.holds Tryd.pinned (.plain (OpenSpec.upto fnUlidStrictSpec)) fnUlidStrictUptoCard
end Rows
end Go.Proofs.YtcojcohipmoopaaDoor
