/-
  No cell of these rows narrows 'for every input' (looked for: loops, veiled, ifaces, maps, wideKeys, modest, calm, conditions, laid).
  DERIVED. THE GIVEN ROWS OF THIS SEAT. 8 by the template 'for every input the law returns true; each argument reads behind the call as it read before'; 0 by the template 'total and deterministic' (their statements: YtbnkbgbgdolihaaTotals.lean).
  GIVEN WITH THE SEED: the statements are not yours to turn. If you find one false, say at which input.
  Laid BY PROGRAM, IN A SANDBOX (cutbox-rows.mjs): the forced cells as the released guide's own fill.sh prints them over the translation afe3021daa71bfe0… (all of the seat's roots in one cut). By AI agents, Wed Nov 11 2026. No macro, syntax, notation, axiom, sorry.
-/
import Derived.Test.YtbnkbgbgdolihaaChecked
import GoSem.Claim
import GoSem.ClaimJoined
import GoSem.ClaimMapViews
import Derived.JoinedTies
import Derived.KernelRfl
namespace Go.Proofs.Ytbnkbgbgdolihaa
/- THE CELL 'sum', in the pinned program and in every row, IS THE sha256 OF THE DUMP (.gsa) THAT YtbnkbgbgdolihaaProg.lean LOADS. Nothing in Lean hashes anything: it is a label: what it is worth is what the hold of that sum in a sandbox is worth. -/
noncomputable def Try.pinned : Pinned := { name := "ytbnkbgbgdolihaa", sum := "afe3021daa71bfe01140d6a060ad90bbb80b5da925de1b5dd4e31ebca99c6339", checked := Try.checked }
namespace Rows
def none {H : Type} : Left H := { results := [], args := [] }

/-- 'laws.FnUuidKind': WHATEVER THE INPUT: true; the input reads as it did. -/
def fnUuidKindSpec : ChangeSpec := { name := "fnUuidKind", fn := fun _ => fun
  | [d] => { results := [.lit (.bool true)], args := [d] }
  | _ => none }
def fnUuidKindRow : OpenClaim := { program := "ytbnkbgbgdolihaa", sum := "afe3021daa71bfe01140d6a060ad90bbb80b5da925de1b5dd4e31ebca99c6339", func := "loop.example/pub-namesbyclock/laws.FnUuidKind", spec := "fnUuidKind", apart := false }
def FnUuidKindSaid : Prop := fnUuidKindRow.holds Try.pinned (OpenSpec.ofChange fnUuidKindSpec)

/-- ITS FALSE NEIGHBOUR: 'it returns false'. Refute it at one input. -/
def fnUuidKindWrong : ChangeSpec := { name := "fnUuidKind", fn := fun _ => fun
  | [d] => { results := [.lit (.bool false)], args := [d] }
  | _ => none }
def FnUuidKindWrongFalsely : Prop := fnUuidKindRow.holds Try.pinned (OpenSpec.ofChange fnUuidKindWrong)

/-- 'laws.FnUuidRandom': WHATEVER THE INPUT: true; the input reads as it did. -/
def fnUuidRandomSpec : ChangeSpec := { name := "fnUuidRandom", fn := fun _ => fun
  | [d] => { results := [.lit (.bool true)], args := [d] }
  | _ => none }
def fnUuidRandomRow : OpenClaim := { program := "ytbnkbgbgdolihaa", sum := "afe3021daa71bfe01140d6a060ad90bbb80b5da925de1b5dd4e31ebca99c6339", func := "loop.example/pub-namesbyclock/laws.FnUuidRandom", spec := "fnUuidRandom", unfollowed := true, recurses := true, apart := false }
def FnUuidRandomSaid : Prop := fnUuidRandomRow.holds Try.pinned (OpenSpec.ofChange fnUuidRandomSpec)

/-- ITS FALSE NEIGHBOUR: 'it returns false'. Refute it at one input. -/
def fnUuidRandomWrong : ChangeSpec := { name := "fnUuidRandom", fn := fun _ => fun
  | [d] => { results := [.lit (.bool false)], args := [d] }
  | _ => none }
def FnUuidRandomWrongFalsely : Prop := fnUuidRandomRow.holds Try.pinned (OpenSpec.ofChange fnUuidRandomWrong)

/-- 'laws.FnUuidText': WHATEVER THE INPUT: true; the input reads as it did. -/
def fnUuidTextSpec : ChangeSpec := { name := "fnUuidText", fn := fun _ => fun
  | [d] => { results := [.lit (.bool true)], args := [d] }
  | _ => none }
def fnUuidTextRow : OpenClaim := { program := "ytbnkbgbgdolihaa", sum := "afe3021daa71bfe01140d6a060ad90bbb80b5da925de1b5dd4e31ebca99c6339", func := "loop.example/pub-namesbyclock/laws.FnUuidText", spec := "fnUuidText", apart := false }
def FnUuidTextSaid : Prop := fnUuidTextRow.holds Try.pinned (OpenSpec.ofChange fnUuidTextSpec)

/-- ITS FALSE NEIGHBOUR: 'it returns false'. Refute it at one input. -/
def fnUuidTextWrong : ChangeSpec := { name := "fnUuidText", fn := fun _ => fun
  | [d] => { results := [.lit (.bool false)], args := [d] }
  | _ => none }
def FnUuidTextWrongFalsely : Prop := fnUuidTextRow.holds Try.pinned (OpenSpec.ofChange fnUuidTextWrong)

/-- 'laws.FnUuidV7': WHATEVER THE INPUT: true; the input reads as it did. -/
def fnUuidV7Spec : ChangeSpec := { name := "fnUuidV7", fn := fun _ => fun
  | [d1, d2] => { results := [.lit (.bool true)], args := [d1, d2] }
  | _ => none }
def fnUuidV7Row : OpenClaim := { program := "ytbnkbgbgdolihaa", sum := "afe3021daa71bfe01140d6a060ad90bbb80b5da925de1b5dd4e31ebca99c6339", func := "loop.example/pub-namesbyclock/laws.FnUuidV7", spec := "fnUuidV7", unfollowed := true, recurses := true, apart := false }
def FnUuidV7Said : Prop := fnUuidV7Row.holds Try.pinned (OpenSpec.ofChange fnUuidV7Spec)

/-- ITS FALSE NEIGHBOUR: 'it returns false'. Refute it at one input. -/
def fnUuidV7Wrong : ChangeSpec := { name := "fnUuidV7", fn := fun _ => fun
  | [d1, d2] => { results := [.lit (.bool false)], args := [d1, d2] }
  | _ => none }
def FnUuidV7WrongFalsely : Prop := fnUuidV7Row.holds Try.pinned (OpenSpec.ofChange fnUuidV7Wrong)

/-- 'laws.FnUuidApart': WHATEVER THE INPUT: true; the input reads as it did. -/
def fnUuidApartSpec : ChangeSpec := { name := "fnUuidApart", fn := fun _ => fun
  | [d1, d2, d3, d4, d5] => { results := [.lit (.bool true)], args := [d1, d2, d3, d4, d5] }
  | _ => none }
def fnUuidApartRow : OpenClaim := { program := "ytbnkbgbgdolihaa", sum := "afe3021daa71bfe01140d6a060ad90bbb80b5da925de1b5dd4e31ebca99c6339", func := "loop.example/pub-namesbyclock/laws.FnUuidApart", spec := "fnUuidApart", unfollowed := true, recurses := true, apart := false }
def FnUuidApartSaid : Prop := fnUuidApartRow.holds Try.pinned (OpenSpec.ofChange fnUuidApartSpec)

/-- ITS FALSE NEIGHBOUR: 'it returns false'. Refute it at one input. -/
def fnUuidApartWrong : ChangeSpec := { name := "fnUuidApart", fn := fun _ => fun
  | [d1, d2, d3, d4, d5] => { results := [.lit (.bool false)], args := [d1, d2, d3, d4, d5] }
  | _ => none }
def FnUuidApartWrongFalsely : Prop := fnUuidApartRow.holds Try.pinned (OpenSpec.ofChange fnUuidApartWrong)

/-- 'laws.FnUuidV1': WHATEVER THE INPUT: true; the input reads as it did. -/
def fnUuidV1Spec : ChangeSpec := { name := "fnUuidV1", fn := fun _ => fun
  | [d1, d2, d3] => { results := [.lit (.bool true)], args := [d1, d2, d3] }
  | _ => none }
def fnUuidV1Row : OpenClaim := { program := "ytbnkbgbgdolihaa", sum := "afe3021daa71bfe01140d6a060ad90bbb80b5da925de1b5dd4e31ebca99c6339", func := "loop.example/pub-namesbyclock/laws.FnUuidV1", spec := "fnUuidV1", unfollowed := true, recurses := true, apart := false }
def FnUuidV1Said : Prop := fnUuidV1Row.holds Try.pinned (OpenSpec.ofChange fnUuidV1Spec)

/-- ITS FALSE NEIGHBOUR: 'it returns false'. Refute it at one input. -/
def fnUuidV1Wrong : ChangeSpec := { name := "fnUuidV1", fn := fun _ => fun
  | [d1, d2, d3] => { results := [.lit (.bool false)], args := [d1, d2, d3] }
  | _ => none }
def FnUuidV1WrongFalsely : Prop := fnUuidV1Row.holds Try.pinned (OpenSpec.ofChange fnUuidV1Wrong)

/-- 'laws.FnUuidV7Time': WHATEVER THE INPUT: true; the input reads as it did. -/
def fnUuidV7TimeSpec : ChangeSpec := { name := "fnUuidV7Time", fn := fun _ => fun
  | [d1, d2] => { results := [.lit (.bool true)], args := [d1, d2] }
  | _ => none }
def fnUuidV7TimeRow : OpenClaim := { program := "ytbnkbgbgdolihaa", sum := "afe3021daa71bfe01140d6a060ad90bbb80b5da925de1b5dd4e31ebca99c6339", func := "loop.example/pub-namesbyclock/laws.FnUuidV7Time", spec := "fnUuidV7Time", unfollowed := true, recurses := true, apart := false }
def FnUuidV7TimeSaid : Prop := fnUuidV7TimeRow.holds Try.pinned (OpenSpec.ofChange fnUuidV7TimeSpec)

/-- ITS FALSE NEIGHBOUR: 'it returns false'. Refute it at one input. -/
def fnUuidV7TimeWrong : ChangeSpec := { name := "fnUuidV7Time", fn := fun _ => fun
  | [d1, d2] => { results := [.lit (.bool false)], args := [d1, d2] }
  | _ => none }
def FnUuidV7TimeWrongFalsely : Prop := fnUuidV7TimeRow.holds Try.pinned (OpenSpec.ofChange fnUuidV7TimeWrong)

/-- 'laws.FnUuidV6': WHATEVER THE INPUT: true; the input reads as it did. -/
def fnUuidV6Spec : ChangeSpec := { name := "fnUuidV6", fn := fun _ => fun
  | [d1, d2, d3] => { results := [.lit (.bool true)], args := [d1, d2, d3] }
  | _ => none }
def fnUuidV6Row : OpenClaim := { program := "ytbnkbgbgdolihaa", sum := "afe3021daa71bfe01140d6a060ad90bbb80b5da925de1b5dd4e31ebca99c6339", func := "loop.example/pub-namesbyclock/laws.FnUuidV6", spec := "fnUuidV6", unfollowed := true, recurses := true, apart := false }
def FnUuidV6Said : Prop := fnUuidV6Row.holds Try.pinned (OpenSpec.ofChange fnUuidV6Spec)

/-- ITS FALSE NEIGHBOUR: 'it returns false'. Refute it at one input. -/
def fnUuidV6Wrong : ChangeSpec := { name := "fnUuidV6", fn := fun _ => fun
  | [d1, d2, d3] => { results := [.lit (.bool false)], args := [d1, d2, d3] }
  | _ => none }
def FnUuidV6WrongFalsely : Prop := fnUuidV6Row.holds Try.pinned (OpenSpec.ofChange fnUuidV6Wrong)

/- THE SECOND FORM. 'bulk': how many values and letters a reading holds, each counted each time it is reached (what is shared counts as often as it is met; a slice's spare places count too). A statement '..UptoSaid' is the law's where the arguments, and the package variables that the reading takes, are together of bulk at most 1048576: NARROWER than '..Said'. Prove '..Said' where nothing that the law and all that it calls make is longer than what came in: it says more and counts as full. Else prove '..UptoSaid'. A law counts once. -/
mutual
def uptoBulk {H : Type} : DataW H → Nat
  | .lit (.string bytes) => bytes.length + 1
  | .lit _ => 1
  | .nil => 1
  | .ptr d => uptoBulk d + 1
  | .slice elems spare => uptoBulkAll elems + uptoBulkAll spare + 1
  | .agg parts => uptoBulkAll parts + 1
  | .iface _ d => uptoBulk d + 1
  | .map entries => uptoBulkEntries entries + 1
  | .held _ => 1
def uptoBulkAll {H : Type} : List (DataW H) → Nat
  | [] => 0
  | d :: r => uptoBulk d + uptoBulkAll r
def uptoBulkEntries {H : Type} : List (Lit × DataW H) → Nat
  | [] => 0
  | x :: r => uptoBulkEntry x + uptoBulkEntries r
def uptoBulkEntry {H : Type} : Lit × DataW H → Nat
  | (.string bytes, d) => bytes.length + uptoBulk d + 1
  | (_, d) => uptoBulk d + 1
 end
def uptoSmall : (H : Type) → List (DataW H) → Bool := fun _ ds => decide (uptoBulkAll ds ≤ 1048576)
def OpenSpec.upto (s : _root_.Go.ChangeSpec) : _root_.Go.OpenSpec := { _root_.Go.OpenSpec.ofChange s with cond := some uptoSmall }

/-- 'laws.FnUuidKind', WHERE WHAT IT READS IS OF BULK AT MOST 1048576: true; the input reads as it did. -/
def fnUuidKindUptoRow : OpenClaim := { program := "ytbnkbgbgdolihaa", sum := "afe3021daa71bfe01140d6a060ad90bbb80b5da925de1b5dd4e31ebca99c6339", func := "loop.example/pub-namesbyclock/laws.FnUuidKind", spec := "fnUuidKind", apart := false, narrowed := true }
def FnUuidKindUptoSaid : Prop := fnUuidKindUptoRow.holds Try.pinned (OpenSpec.upto fnUuidKindSpec)

/-- 'laws.FnUuidRandom', WHERE WHAT IT READS IS OF BULK AT MOST 1048576: true; the input reads as it did. -/
def fnUuidRandomUptoRow : OpenClaim := { program := "ytbnkbgbgdolihaa", sum := "afe3021daa71bfe01140d6a060ad90bbb80b5da925de1b5dd4e31ebca99c6339", func := "loop.example/pub-namesbyclock/laws.FnUuidRandom", spec := "fnUuidRandom", unfollowed := true, recurses := true, apart := false, narrowed := true }
def FnUuidRandomUptoSaid : Prop := fnUuidRandomUptoRow.holds Try.pinned (OpenSpec.upto fnUuidRandomSpec)

/-- 'laws.FnUuidText', WHERE WHAT IT READS IS OF BULK AT MOST 1048576: true; the input reads as it did. -/
def fnUuidTextUptoRow : OpenClaim := { program := "ytbnkbgbgdolihaa", sum := "afe3021daa71bfe01140d6a060ad90bbb80b5da925de1b5dd4e31ebca99c6339", func := "loop.example/pub-namesbyclock/laws.FnUuidText", spec := "fnUuidText", apart := false, narrowed := true }
def FnUuidTextUptoSaid : Prop := fnUuidTextUptoRow.holds Try.pinned (OpenSpec.upto fnUuidTextSpec)

/-- 'laws.FnUuidV7', WHERE WHAT IT READS IS OF BULK AT MOST 1048576: true; the input reads as it did. -/
def fnUuidV7UptoRow : OpenClaim := { program := "ytbnkbgbgdolihaa", sum := "afe3021daa71bfe01140d6a060ad90bbb80b5da925de1b5dd4e31ebca99c6339", func := "loop.example/pub-namesbyclock/laws.FnUuidV7", spec := "fnUuidV7", unfollowed := true, recurses := true, apart := false, narrowed := true }
def FnUuidV7UptoSaid : Prop := fnUuidV7UptoRow.holds Try.pinned (OpenSpec.upto fnUuidV7Spec)

/-- 'laws.FnUuidApart', WHERE WHAT IT READS IS OF BULK AT MOST 1048576: true; the input reads as it did. -/
def fnUuidApartUptoRow : OpenClaim := { program := "ytbnkbgbgdolihaa", sum := "afe3021daa71bfe01140d6a060ad90bbb80b5da925de1b5dd4e31ebca99c6339", func := "loop.example/pub-namesbyclock/laws.FnUuidApart", spec := "fnUuidApart", unfollowed := true, recurses := true, apart := false, narrowed := true }
def FnUuidApartUptoSaid : Prop := fnUuidApartUptoRow.holds Try.pinned (OpenSpec.upto fnUuidApartSpec)

/-- 'laws.FnUuidV1', WHERE WHAT IT READS IS OF BULK AT MOST 1048576: true; the input reads as it did. -/
def fnUuidV1UptoRow : OpenClaim := { program := "ytbnkbgbgdolihaa", sum := "afe3021daa71bfe01140d6a060ad90bbb80b5da925de1b5dd4e31ebca99c6339", func := "loop.example/pub-namesbyclock/laws.FnUuidV1", spec := "fnUuidV1", unfollowed := true, recurses := true, apart := false, narrowed := true }
def FnUuidV1UptoSaid : Prop := fnUuidV1UptoRow.holds Try.pinned (OpenSpec.upto fnUuidV1Spec)

/-- 'laws.FnUuidV7Time', WHERE WHAT IT READS IS OF BULK AT MOST 1048576: true; the input reads as it did. -/
def fnUuidV7TimeUptoRow : OpenClaim := { program := "ytbnkbgbgdolihaa", sum := "afe3021daa71bfe01140d6a060ad90bbb80b5da925de1b5dd4e31ebca99c6339", func := "loop.example/pub-namesbyclock/laws.FnUuidV7Time", spec := "fnUuidV7Time", unfollowed := true, recurses := true, apart := false, narrowed := true }
def FnUuidV7TimeUptoSaid : Prop := fnUuidV7TimeUptoRow.holds Try.pinned (OpenSpec.upto fnUuidV7TimeSpec)

/-- 'laws.FnUuidV6', WHERE WHAT IT READS IS OF BULK AT MOST 1048576: true; the input reads as it did. -/
def fnUuidV6UptoRow : OpenClaim := { program := "ytbnkbgbgdolihaa", sum := "afe3021daa71bfe01140d6a060ad90bbb80b5da925de1b5dd4e31ebca99c6339", func := "loop.example/pub-namesbyclock/laws.FnUuidV6", spec := "fnUuidV6", unfollowed := true, recurses := true, apart := false, narrowed := true }
def FnUuidV6UptoSaid : Prop := fnUuidV6UptoRow.holds Try.pinned (OpenSpec.upto fnUuidV6Spec)

end Rows
end Go.Proofs.Ytbnkbgbgdolihaa
