/-
  No cell of these rows narrows 'for every input' (looked for: loops, veiled, ifaces, maps, wideKeys, modest, calm, conditions, laid).
  DERIVED. THE GIVEN ROWS OF THIS SEAT. 10 by the template 'for every input the law returns true; each argument reads behind the call as it read before'; 0 by the template 'total and deterministic' (their statements: YtbacbgicfomkbaaTotals.lean).
  GIVEN WITH THE SEED: the statements are not yours to turn. If you find one false, say at which input.
  Laid BY PROGRAM, IN A SANDBOX (cutbox-rows.mjs): the forced cells as the released guide's own fill.sh prints them over the translation 919a1758596b4959… (all of the seat's roots in one cut). By AI agents, Wed Nov 11 2026. No macro, syntax, notation, axiom, sorry.
-/
import Derived.Test.YtbacbgicfomkbaaChecked
import GoSem.Claim
import GoSem.ClaimJoined
import GoSem.ClaimMapViews
import Derived.JoinedTies
import Derived.KernelRfl
namespace Go.Proofs.Ytbacbgicfomkbaa
/- THE CELL 'sum', in the pinned program and in every row, IS THE sha256 OF THE DUMP (.gsa) THAT YtbacbgicfomkbaaProg.lean LOADS. Nothing in Lean hashes anything: it is a label: what it is worth is what the hold of that sum in a sandbox is worth. -/
noncomputable def Try.pinned : Pinned := { name := "ytbacbgicfomkbaa", sum := "919a1758596b4959f898f3b579662b06a7f511a024a146b842260d756153da1b", checked := Try.checked }
namespace Rows
def none {H : Type} : Left H := { results := [], args := [] }

/-- 'laws.FnKsuidEnd': WHATEVER THE INPUT: true; the input reads as it did. -/
def fnKsuidEndSpec : ChangeSpec := { name := "fnKsuidEnd", fn := fun _ => fun
  | [d1, d2] => { results := [.lit (.bool true)], args := [d1, d2] }
  | _ => none }
def fnKsuidEndRow : OpenClaim := { program := "ytbacbgicfomkbaa", sum := "919a1758596b4959f898f3b579662b06a7f511a024a146b842260d756153da1b", func := "loop.example/pub-namesbyclock/laws.FnKsuidEnd", spec := "fnKsuidEnd", apart := false }
def FnKsuidEndSaid : Prop := fnKsuidEndRow.holds Try.pinned (OpenSpec.ofChange fnKsuidEndSpec)

/-- ITS FALSE NEIGHBOUR: 'it returns false'. Refute it at one input. -/
def fnKsuidEndWrong : ChangeSpec := { name := "fnKsuidEnd", fn := fun _ => fun
  | [d1, d2] => { results := [.lit (.bool false)], args := [d1, d2] }
  | _ => none }
def FnKsuidEndWrongFalsely : Prop := fnKsuidEndRow.holds Try.pinned (OpenSpec.ofChange fnKsuidEndWrong)

/-- 'laws.FnKsuidSequence': WHATEVER THE INPUT: true; the input reads as it did. -/
def fnKsuidSequenceSpec : ChangeSpec := { name := "fnKsuidSequence", fn := fun _ => fun
  | [d1, d2] => { results := [.lit (.bool true)], args := [d1, d2] }
  | _ => none }
def fnKsuidSequenceRow : OpenClaim := { program := "ytbacbgicfomkbaa", sum := "919a1758596b4959f898f3b579662b06a7f511a024a146b842260d756153da1b", func := "loop.example/pub-namesbyclock/laws.FnKsuidSequence", spec := "fnKsuidSequence", apart := false }
def FnKsuidSequenceSaid : Prop := fnKsuidSequenceRow.holds Try.pinned (OpenSpec.ofChange fnKsuidSequenceSpec)

/-- ITS FALSE NEIGHBOUR: 'it returns false'. Refute it at one input. -/
def fnKsuidSequenceWrong : ChangeSpec := { name := "fnKsuidSequence", fn := fun _ => fun
  | [d1, d2] => { results := [.lit (.bool false)], args := [d1, d2] }
  | _ => none }
def FnKsuidSequenceWrongFalsely : Prop := fnKsuidSequenceRow.holds Try.pinned (OpenSpec.ofChange fnKsuidSequenceWrong)

/-- 'laws.FnKsuidSort': WHATEVER THE INPUT: true; the input reads as it did. -/
def fnKsuidSortSpec : ChangeSpec := { name := "fnKsuidSort", fn := fun _ => fun
  | [d] => { results := [.lit (.bool true)], args := [d] }
  | _ => none }
def fnKsuidSortRow : OpenClaim := { program := "ytbacbgicfomkbaa", sum := "919a1758596b4959f898f3b579662b06a7f511a024a146b842260d756153da1b", func := "loop.example/pub-namesbyclock/laws.FnKsuidSort", spec := "fnKsuidSort", inPlace := ["internal/bytealg.Compare"], recurses := true, apart := false }
def FnKsuidSortSaid : Prop := fnKsuidSortRow.holds Try.pinned (OpenSpec.ofChange fnKsuidSortSpec)

/-- ITS FALSE NEIGHBOUR: 'it returns false'. Refute it at one input. -/
def fnKsuidSortWrong : ChangeSpec := { name := "fnKsuidSort", fn := fun _ => fun
  | [d] => { results := [.lit (.bool false)], args := [d] }
  | _ => none }
def FnKsuidSortWrongFalsely : Prop := fnKsuidSortRow.holds Try.pinned (OpenSpec.ofChange fnKsuidSortWrong)

/-- 'laws.FnKsuidText': WHATEVER THE INPUT: true; the input reads as it did. -/
def fnKsuidTextSpec : ChangeSpec := { name := "fnKsuidText", fn := fun _ => fun
  | [d] => { results := [.lit (.bool true)], args := [d] }
  | _ => none }
def fnKsuidTextRow : OpenClaim := { program := "ytbacbgicfomkbaa", sum := "919a1758596b4959f898f3b579662b06a7f511a024a146b842260d756153da1b", func := "loop.example/pub-namesbyclock/laws.FnKsuidText", spec := "fnKsuidText", apart := false }
def FnKsuidTextSaid : Prop := fnKsuidTextRow.holds Try.pinned (OpenSpec.ofChange fnKsuidTextSpec)

/-- ITS FALSE NEIGHBOUR: 'it returns false'. Refute it at one input. -/
def fnKsuidTextWrong : ChangeSpec := { name := "fnKsuidText", fn := fun _ => fun
  | [d] => { results := [.lit (.bool false)], args := [d] }
  | _ => none }
def FnKsuidTextWrongFalsely : Prop := fnKsuidTextRow.holds Try.pinned (OpenSpec.ofChange fnKsuidTextWrong)

/-- 'laws.FnKsuidOrder': WHATEVER THE INPUT: true; the input reads as it did. -/
def fnKsuidOrderSpec : ChangeSpec := { name := "fnKsuidOrder", fn := fun _ => fun
  | [d1, d2] => { results := [.lit (.bool true)], args := [d1, d2] }
  | _ => none }
def fnKsuidOrderRow : OpenClaim := { program := "ytbacbgicfomkbaa", sum := "919a1758596b4959f898f3b579662b06a7f511a024a146b842260d756153da1b", func := "loop.example/pub-namesbyclock/laws.FnKsuidOrder", spec := "fnKsuidOrder", inPlace := ["internal/bytealg.Compare"], apart := false }
def FnKsuidOrderSaid : Prop := fnKsuidOrderRow.holds Try.pinned (OpenSpec.ofChange fnKsuidOrderSpec)

/-- ITS FALSE NEIGHBOUR: 'it returns false'. Refute it at one input. -/
def fnKsuidOrderWrong : ChangeSpec := { name := "fnKsuidOrder", fn := fun _ => fun
  | [d1, d2] => { results := [.lit (.bool false)], args := [d1, d2] }
  | _ => none }
def FnKsuidOrderWrongFalsely : Prop := fnKsuidOrderRow.holds Try.pinned (OpenSpec.ofChange fnKsuidOrderWrong)

/-- 'laws.FnKsuidNext': WHATEVER THE INPUT: true; the input reads as it did. -/
def fnKsuidNextSpec : ChangeSpec := { name := "fnKsuidNext", fn := fun _ => fun
  | [d] => { results := [.lit (.bool true)], args := [d] }
  | _ => none }
def fnKsuidNextRow : OpenClaim := { program := "ytbacbgicfomkbaa", sum := "919a1758596b4959f898f3b579662b06a7f511a024a146b842260d756153da1b", func := "loop.example/pub-namesbyclock/laws.FnKsuidNext", spec := "fnKsuidNext", apart := false }
def FnKsuidNextSaid : Prop := fnKsuidNextRow.holds Try.pinned (OpenSpec.ofChange fnKsuidNextSpec)

/-- ITS FALSE NEIGHBOUR: 'it returns false'. Refute it at one input. -/
def fnKsuidNextWrong : ChangeSpec := { name := "fnKsuidNext", fn := fun _ => fun
  | [d] => { results := [.lit (.bool false)], args := [d] }
  | _ => none }
def FnKsuidNextWrongFalsely : Prop := fnKsuidNextRow.holds Try.pinned (OpenSpec.ofChange fnKsuidNextWrong)

/-- 'laws.FnKsuidSet': WHATEVER THE INPUT: true; the input reads as it did. -/
def fnKsuidSetSpec : ChangeSpec := { name := "fnKsuidSet", fn := fun _ => fun
  | [d] => { results := [.lit (.bool true)], args := [d] }
  | _ => none }
def fnKsuidSetRow : OpenClaim := { program := "ytbacbgicfomkbaa", sum := "919a1758596b4959f898f3b579662b06a7f511a024a146b842260d756153da1b", func := "loop.example/pub-namesbyclock/laws.FnKsuidSet", spec := "fnKsuidSet", inPlace := ["internal/bytealg.Compare"], recurses := true, apart := false }
def FnKsuidSetSaid : Prop := fnKsuidSetRow.holds Try.pinned (OpenSpec.ofChange fnKsuidSetSpec)

/-- ITS FALSE NEIGHBOUR: 'it returns false'. Refute it at one input. -/
def fnKsuidSetWrong : ChangeSpec := { name := "fnKsuidSet", fn := fun _ => fun
  | [d] => { results := [.lit (.bool false)], args := [d] }
  | _ => none }
def FnKsuidSetWrongFalsely : Prop := fnKsuidSetRow.holds Try.pinned (OpenSpec.ofChange fnKsuidSetWrong)

/-- 'laws.FnKsuidPrev': WHATEVER THE INPUT: true; the input reads as it did. -/
def fnKsuidPrevSpec : ChangeSpec := { name := "fnKsuidPrev", fn := fun _ => fun
  | [d] => { results := [.lit (.bool true)], args := [d] }
  | _ => none }
def fnKsuidPrevRow : OpenClaim := { program := "ytbacbgicfomkbaa", sum := "919a1758596b4959f898f3b579662b06a7f511a024a146b842260d756153da1b", func := "loop.example/pub-namesbyclock/laws.FnKsuidPrev", spec := "fnKsuidPrev", apart := false }
def FnKsuidPrevSaid : Prop := fnKsuidPrevRow.holds Try.pinned (OpenSpec.ofChange fnKsuidPrevSpec)

/-- ITS FALSE NEIGHBOUR: 'it returns false'. Refute it at one input. -/
def fnKsuidPrevWrong : ChangeSpec := { name := "fnKsuidPrev", fn := fun _ => fun
  | [d] => { results := [.lit (.bool false)], args := [d] }
  | _ => none }
def FnKsuidPrevWrongFalsely : Prop := fnKsuidPrevRow.holds Try.pinned (OpenSpec.ofChange fnKsuidPrevWrong)

/-- 'laws.FnKsuidRead': WHATEVER THE INPUT: true; the input reads as it did. -/
def fnKsuidReadSpec : ChangeSpec := { name := "fnKsuidRead", fn := fun _ => fun
  | [d1, d2] => { results := [.lit (.bool true)], args := [d1, d2] }
  | _ => none }
def fnKsuidReadRow : OpenClaim := { program := "ytbacbgicfomkbaa", sum := "919a1758596b4959f898f3b579662b06a7f511a024a146b842260d756153da1b", func := "loop.example/pub-namesbyclock/laws.FnKsuidRead", spec := "fnKsuidRead", apart := false }
def FnKsuidReadSaid : Prop := fnKsuidReadRow.holds Try.pinned (OpenSpec.ofChange fnKsuidReadSpec)

/-- ITS FALSE NEIGHBOUR: 'it returns false'. Refute it at one input. -/
def fnKsuidReadWrong : ChangeSpec := { name := "fnKsuidRead", fn := fun _ => fun
  | [d1, d2] => { results := [.lit (.bool false)], args := [d1, d2] }
  | _ => none }
def FnKsuidReadWrongFalsely : Prop := fnKsuidReadRow.holds Try.pinned (OpenSpec.ofChange fnKsuidReadWrong)

/-- 'laws.FnKsuidMake': WHATEVER THE INPUT: true; the input reads as it did. -/
def fnKsuidMakeSpec : ChangeSpec := { name := "fnKsuidMake", fn := fun _ => fun
  | [d1, d2] => { results := [.lit (.bool true)], args := [d1, d2] }
  | _ => none }
def fnKsuidMakeRow : OpenClaim := { program := "ytbacbgicfomkbaa", sum := "919a1758596b4959f898f3b579662b06a7f511a024a146b842260d756153da1b", func := "loop.example/pub-namesbyclock/laws.FnKsuidMake", spec := "fnKsuidMake", apart := false }
def FnKsuidMakeSaid : Prop := fnKsuidMakeRow.holds Try.pinned (OpenSpec.ofChange fnKsuidMakeSpec)

/-- ITS FALSE NEIGHBOUR: 'it returns false'. Refute it at one input. -/
def fnKsuidMakeWrong : ChangeSpec := { name := "fnKsuidMake", fn := fun _ => fun
  | [d1, d2] => { results := [.lit (.bool false)], args := [d1, d2] }
  | _ => none }
def FnKsuidMakeWrongFalsely : Prop := fnKsuidMakeRow.holds Try.pinned (OpenSpec.ofChange fnKsuidMakeWrong)

/- THE SECOND FORM. 'bulk': how many values and letters a reading holds, each counted each time it is reached (what is shared counts as often as it is met; a slice's spare places count too). A statement '..UptoSaid' is the law's where the arguments, and the package variables that the reading takes, are together of bulk at most 1048576: NARROWER than '..Said'. Prove '..Said' where nothing that the law and all that it calls make is longer than what came in: it says more and counts as full. Else prove '..UptoSaid'. A law counts once. -/
mutual
def uptoBulk {H : Type} : DataW H → Nat
  | .lit (.string bytes) => bytes.length + 1
  | .lit _ => 1
  | .nil => 1
  | .ptr d => uptoBulk d + 1
  | .slice elems spare => uptoBulkAll elems + uptoBulkAll spare + 1
  | .agg parts => uptoBulkAll parts + 1
  | .iface _ d => uptoBulk d + 1
  | .map entries => uptoBulkEntries entries + 1
  | .held _ => 1
def uptoBulkAll {H : Type} : List (DataW H) → Nat
  | [] => 0
  | d :: r => uptoBulk d + uptoBulkAll r
def uptoBulkEntries {H : Type} : List (Lit × DataW H) → Nat
  | [] => 0
  | x :: r => uptoBulkEntry x + uptoBulkEntries r
def uptoBulkEntry {H : Type} : Lit × DataW H → Nat
  | (.string bytes, d) => bytes.length + uptoBulk d + 1
  | (_, d) => uptoBulk d + 1
 end
def uptoSmall : (H : Type) → List (DataW H) → Bool := fun _ ds => decide (uptoBulkAll ds ≤ 1048576)
def OpenSpec.upto (s : _root_.Go.ChangeSpec) : _root_.Go.OpenSpec := { _root_.Go.OpenSpec.ofChange s with cond := some uptoSmall }

/-- 'laws.FnKsuidEnd', WHERE WHAT IT READS IS OF BULK AT MOST 1048576: true; the input reads as it did. -/
def fnKsuidEndUptoRow : OpenClaim := { program := "ytbacbgicfomkbaa", sum := "919a1758596b4959f898f3b579662b06a7f511a024a146b842260d756153da1b", func := "loop.example/pub-namesbyclock/laws.FnKsuidEnd", spec := "fnKsuidEnd", apart := false, narrowed := true }
def FnKsuidEndUptoSaid : Prop := fnKsuidEndUptoRow.holds Try.pinned (OpenSpec.upto fnKsuidEndSpec)

/-- 'laws.FnKsuidSequence', WHERE WHAT IT READS IS OF BULK AT MOST 1048576: true; the input reads as it did. -/
def fnKsuidSequenceUptoRow : OpenClaim := { program := "ytbacbgicfomkbaa", sum := "919a1758596b4959f898f3b579662b06a7f511a024a146b842260d756153da1b", func := "loop.example/pub-namesbyclock/laws.FnKsuidSequence", spec := "fnKsuidSequence", apart := false, narrowed := true }
def FnKsuidSequenceUptoSaid : Prop := fnKsuidSequenceUptoRow.holds Try.pinned (OpenSpec.upto fnKsuidSequenceSpec)

/-- 'laws.FnKsuidSort', WHERE WHAT IT READS IS OF BULK AT MOST 1048576: true; the input reads as it did. -/
def fnKsuidSortUptoRow : OpenClaim := { program := "ytbacbgicfomkbaa", sum := "919a1758596b4959f898f3b579662b06a7f511a024a146b842260d756153da1b", func := "loop.example/pub-namesbyclock/laws.FnKsuidSort", spec := "fnKsuidSort", inPlace := ["internal/bytealg.Compare"], recurses := true, apart := false, narrowed := true }
def FnKsuidSortUptoSaid : Prop := fnKsuidSortUptoRow.holds Try.pinned (OpenSpec.upto fnKsuidSortSpec)

/-- 'laws.FnKsuidText', WHERE WHAT IT READS IS OF BULK AT MOST 1048576: true; the input reads as it did. -/
def fnKsuidTextUptoRow : OpenClaim := { program := "ytbacbgicfomkbaa", sum := "919a1758596b4959f898f3b579662b06a7f511a024a146b842260d756153da1b", func := "loop.example/pub-namesbyclock/laws.FnKsuidText", spec := "fnKsuidText", apart := false, narrowed := true }
def FnKsuidTextUptoSaid : Prop := fnKsuidTextUptoRow.holds Try.pinned (OpenSpec.upto fnKsuidTextSpec)

/-- 'laws.FnKsuidOrder', WHERE WHAT IT READS IS OF BULK AT MOST 1048576: true; the input reads as it did. -/
def fnKsuidOrderUptoRow : OpenClaim := { program := "ytbacbgicfomkbaa", sum := "919a1758596b4959f898f3b579662b06a7f511a024a146b842260d756153da1b", func := "loop.example/pub-namesbyclock/laws.FnKsuidOrder", spec := "fnKsuidOrder", inPlace := ["internal/bytealg.Compare"], apart := false, narrowed := true }
def FnKsuidOrderUptoSaid : Prop := fnKsuidOrderUptoRow.holds Try.pinned (OpenSpec.upto fnKsuidOrderSpec)

/-- 'laws.FnKsuidNext', WHERE WHAT IT READS IS OF BULK AT MOST 1048576: true; the input reads as it did. -/
def fnKsuidNextUptoRow : OpenClaim := { program := "ytbacbgicfomkbaa", sum := "919a1758596b4959f898f3b579662b06a7f511a024a146b842260d756153da1b", func := "loop.example/pub-namesbyclock/laws.FnKsuidNext", spec := "fnKsuidNext", apart := false, narrowed := true }
def FnKsuidNextUptoSaid : Prop := fnKsuidNextUptoRow.holds Try.pinned (OpenSpec.upto fnKsuidNextSpec)

/-- 'laws.FnKsuidSet', WHERE WHAT IT READS IS OF BULK AT MOST 1048576: true; the input reads as it did. -/
def fnKsuidSetUptoRow : OpenClaim := { program := "ytbacbgicfomkbaa", sum := "919a1758596b4959f898f3b579662b06a7f511a024a146b842260d756153da1b", func := "loop.example/pub-namesbyclock/laws.FnKsuidSet", spec := "fnKsuidSet", inPlace := ["internal/bytealg.Compare"], recurses := true, apart := false, narrowed := true }
def FnKsuidSetUptoSaid : Prop := fnKsuidSetUptoRow.holds Try.pinned (OpenSpec.upto fnKsuidSetSpec)

/-- 'laws.FnKsuidPrev', WHERE WHAT IT READS IS OF BULK AT MOST 1048576: true; the input reads as it did. -/
def fnKsuidPrevUptoRow : OpenClaim := { program := "ytbacbgicfomkbaa", sum := "919a1758596b4959f898f3b579662b06a7f511a024a146b842260d756153da1b", func := "loop.example/pub-namesbyclock/laws.FnKsuidPrev", spec := "fnKsuidPrev", apart := false, narrowed := true }
def FnKsuidPrevUptoSaid : Prop := fnKsuidPrevUptoRow.holds Try.pinned (OpenSpec.upto fnKsuidPrevSpec)

/-- 'laws.FnKsuidRead', WHERE WHAT IT READS IS OF BULK AT MOST 1048576: true; the input reads as it did. -/
def fnKsuidReadUptoRow : OpenClaim := { program := "ytbacbgicfomkbaa", sum := "919a1758596b4959f898f3b579662b06a7f511a024a146b842260d756153da1b", func := "loop.example/pub-namesbyclock/laws.FnKsuidRead", spec := "fnKsuidRead", apart := false, narrowed := true }
def FnKsuidReadUptoSaid : Prop := fnKsuidReadUptoRow.holds Try.pinned (OpenSpec.upto fnKsuidReadSpec)

/-- 'laws.FnKsuidMake', WHERE WHAT IT READS IS OF BULK AT MOST 1048576: true; the input reads as it did. -/
def fnKsuidMakeUptoRow : OpenClaim := { program := "ytbacbgicfomkbaa", sum := "919a1758596b4959f898f3b579662b06a7f511a024a146b842260d756153da1b", func := "loop.example/pub-namesbyclock/laws.FnKsuidMake", spec := "fnKsuidMake", apart := false, narrowed := true }
def FnKsuidMakeUptoSaid : Prop := fnKsuidMakeUptoRow.holds Try.pinned (OpenSpec.upto fnKsuidMakeSpec)

end Rows
end Go.Proofs.Ytbacbgicfomkbaa
