/-
  DERIVED. GIVEN WITH THE SEED: THE CARDS: each row of YtdjppileeeljnaaDoorRows.lean that lists a variable, with what it lists TIED to the program's text (the seventh form; the later family's looks); each row that meets fmt, with fmt's text TOLD by the authors' own Lean function (tested against real Go, not proved from fmt's source: count such statements apart). THE CARD IS WHAT COUNTS. Prove the row's statement (the work); the ties are given (YtdjppileeeljnaaDoorTie.lean); close each card by the builder's one call (the guide's Derived/Test/ToyasCard.lean, 'card_holds'). Laid BY PROGRAM, IN A SANDBOX (cutbox-door.mjs). By AI agents, Wed Nov 11 2026. No macro, syntax, notation, axiom, sorry.
-/
import Derived.Test.YtdjppileeeljnaaDoorRows
import GoSem.ClaimSeven
namespace Go.Proofs.YtdjppileeeljnaaDoor
namespace Rows

/-- THE TIED CARD OF 'laws.FnUuidLength'. -/
def fnUuidLengthCard : Claim7 := { stood := { row := fnUuidLengthRow, standIns := [], harness := (true, "c969eeb0e508ddb471f72eacd4b67f3cfa953ebc14480e955dae292ce4e0f7c6"), looks := false }, kinds := [], alts := [], laidByText := true, laidKinds := [.data, .data, .data, .data, .pinned, .pinned], laidTests := true, laidLooks := .later }
def FnUuidLengthCardSaid : Prop := Claim7.holds Tryd.pinned (.plain (OpenSpec.ofChange fnUuidLengthSpec)) fnUuidLengthCard

/-- THE TIED CARD OF 'laws.FnUuidRead'. -/
def fnUuidReadCard : Claim7 := { stood := { row := fnUuidReadRow, standIns := [], harness := (true, "c969eeb0e508ddb471f72eacd4b67f3cfa953ebc14480e955dae292ce4e0f7c6"), looks := false }, kinds := [], alts := [], laidByText := true, laidKinds := [.data, .data, .data, .data, .pinned, .pinned], laidTests := true, laidLooks := .later }
def FnUuidReadCardSaid : Prop := Claim7.holds Tryd.pinned (.plain (OpenSpec.ofChange fnUuidReadSpec)) fnUuidReadCard

/-- THE TIED CARD OF 'laws.FnUuidSign'. -/
def fnUuidSignCard : Claim7 := { stood := { row := fnUuidSignRow, standIns := [], harness := (true, "c969eeb0e508ddb471f72eacd4b67f3cfa953ebc14480e955dae292ce4e0f7c6"), looks := false }, kinds := [], alts := [], laidByText := true, laidKinds := [.data, .data, .data, .data, .pinned, .pinned], laidTests := true, laidLooks := .later }
def FnUuidSignCardSaid : Prop := Claim7.holds Tryd.pinned (.plain (OpenSpec.ofChange fnUuidSignSpec)) fnUuidSignCard

/-- THE SECOND FORM's CARD OF 'laws.FnUuidLength'. -/
def fnUuidLengthUptoCard : Claim7 := { stood := { row := fnUuidLengthUptoRow, standIns := [], harness := (true, "c969eeb0e508ddb471f72eacd4b67f3cfa953ebc14480e955dae292ce4e0f7c6"), looks := false }, kinds := [], alts := [], laidByText := true, laidKinds := [.data, .data, .data, .data, .pinned, .pinned], laidTests := true, laidLooks := .later }
def FnUuidLengthUptoCardSaid : Prop := Claim7.holds Tryd.pinned (.plain (OpenSpec.upto fnUuidLengthSpec)) fnUuidLengthUptoCard

/-- THE SECOND FORM's CARD OF 'laws.FnUuidRead'. -/
def fnUuidReadUptoCard : Claim7 := { stood := { row := fnUuidReadUptoRow, standIns := [], harness := (true, "c969eeb0e508ddb471f72eacd4b67f3cfa953ebc14480e955dae292ce4e0f7c6"), looks := false }, kinds := [], alts := [], laidByText := true, laidKinds := [.data, .data, .data, .data, .pinned, .pinned], laidTests := true, laidLooks := .later }
def FnUuidReadUptoCardSaid : Prop := Claim7.holds Tryd.pinned (.plain (OpenSpec.upto fnUuidReadSpec)) fnUuidReadUptoCard

/-- THE SECOND FORM's CARD OF 'laws.FnUuidSign'. -/
def fnUuidSignUptoCard : Claim7 := { stood := { row := fnUuidSignUptoRow, standIns := [], harness := (true, "c969eeb0e508ddb471f72eacd4b67f3cfa953ebc14480e955dae292ce4e0f7c6"), looks := false }, kinds := [], alts := [], laidByText := true, laidKinds := [.data, .data, .data, .data, .pinned, .pinned], laidTests := true, laidLooks := .later }
def FnUuidSignUptoCardSaid : Prop := Claim7.holds Tryd.pinned (.plain (OpenSpec.upto fnUuidSignSpec)) fnUuidSignUptoCard
end Rows
end Go.Proofs.YtdjppileeeljnaaDoor
