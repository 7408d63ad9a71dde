/-
  No cell of these rows narrows 'for every input' (looked for: loops, veiled, ifaces, maps, wideKeys, modest, calm, conditions, laid).
  DERIVED. THE GIVEN ROWS OF THIS SEAT. 5 by the template 'for every input the law returns true; each argument reads behind the call as it read before'; 0 by the template 'total and deterministic' (their statements: YtpnpgckpjlbmdaaTotals.lean).
  GIVEN WITH THE SEED: the statements are not yours to turn. If you find one false, say at which input.
  Laid BY PROGRAM, IN A SANDBOX (cutbox-rows.mjs): the forced cells as the released guide's own fill.sh prints them over the translation daa8b58cca4ac3a1… (all of the seat's roots in one cut). By AI agents, Wed Nov 11 2026. No macro, syntax, notation, axiom, sorry.
-/
import Derived.Test.YtpnpgckpjlbmdaaChecked
import GoSem.Claim
import GoSem.ClaimJoined
import GoSem.ClaimMapViews
import Derived.JoinedTies
import Derived.KernelRfl
namespace Go.Proofs.Ytpnpgckpjlbmdaa
/- THE CELL 'sum', in the pinned program and in every row, IS THE sha256 OF THE DUMP (.gsa) THAT YtpnpgckpjlbmdaaProg.lean LOADS. Nothing in Lean hashes anything: it is a label: what it is worth is what the hold of that sum in a sandbox is worth. -/
noncomputable def Try.pinned : Pinned := { name := "ytpnpgckpjlbmdaa", sum := "daa8b58cca4ac3a1f9f3bb1dbfe7ea2257d6d7f6f153675dd6f3e681167cf9bd", checked := Try.checked }
namespace Rows
def none {H : Type} : Left H := { results := [], args := [] }

/-- 'laws.FnUlidOrder': WHATEVER THE INPUT: true; the input reads as it did. -/
def fnUlidOrderSpec : ChangeSpec := { name := "fnUlidOrder", fn := fun _ => fun
  | [d1, d2] => { results := [.lit (.bool true)], args := [d1, d2] }
  | _ => none }
def fnUlidOrderRow : OpenClaim := { program := "ytpnpgckpjlbmdaa", sum := "daa8b58cca4ac3a1f9f3bb1dbfe7ea2257d6d7f6f153675dd6f3e681167cf9bd", func := "loop.example/pub-namesbyclock/laws.FnUlidOrder", spec := "fnUlidOrder", inPlace := ["internal/bytealg.Compare"], apart := false }
def FnUlidOrderSaid : Prop := fnUlidOrderRow.holds Try.pinned (OpenSpec.ofChange fnUlidOrderSpec)

/-- ITS FALSE NEIGHBOUR: 'it returns false'. Refute it at one input. -/
def fnUlidOrderWrong : ChangeSpec := { name := "fnUlidOrder", fn := fun _ => fun
  | [d1, d2] => { results := [.lit (.bool false)], args := [d1, d2] }
  | _ => none }
def FnUlidOrderWrongFalsely : Prop := fnUlidOrderRow.holds Try.pinned (OpenSpec.ofChange fnUlidOrderWrong)

/-- 'laws.FnUlidSetTime': WHATEVER THE INPUT: true; the input reads as it did. -/
def fnUlidSetTimeSpec : ChangeSpec := { name := "fnUlidSetTime", fn := fun _ => fun
  | [d1, d2] => { results := [.lit (.bool true)], args := [d1, d2] }
  | _ => none }
def fnUlidSetTimeRow : OpenClaim := { program := "ytpnpgckpjlbmdaa", sum := "daa8b58cca4ac3a1f9f3bb1dbfe7ea2257d6d7f6f153675dd6f3e681167cf9bd", func := "loop.example/pub-namesbyclock/laws.FnUlidSetTime", spec := "fnUlidSetTime", apart := false }
def FnUlidSetTimeSaid : Prop := fnUlidSetTimeRow.holds Try.pinned (OpenSpec.ofChange fnUlidSetTimeSpec)

/-- ITS FALSE NEIGHBOUR: 'it returns false'. Refute it at one input. -/
def fnUlidSetTimeWrong : ChangeSpec := { name := "fnUlidSetTime", fn := fun _ => fun
  | [d1, d2] => { results := [.lit (.bool false)], args := [d1, d2] }
  | _ => none }
def FnUlidSetTimeWrongFalsely : Prop := fnUlidSetTimeRow.holds Try.pinned (OpenSpec.ofChange fnUlidSetTimeWrong)

/-- 'laws.FnUlidText': WHATEVER THE INPUT: true; the input reads as it did. -/
def fnUlidTextSpec : ChangeSpec := { name := "fnUlidText", fn := fun _ => fun
  | [d] => { results := [.lit (.bool true)], args := [d] }
  | _ => none }
def fnUlidTextRow : OpenClaim := { program := "ytpnpgckpjlbmdaa", sum := "daa8b58cca4ac3a1f9f3bb1dbfe7ea2257d6d7f6f153675dd6f3e681167cf9bd", func := "loop.example/pub-namesbyclock/laws.FnUlidText", spec := "fnUlidText", apart := false }
def FnUlidTextSaid : Prop := fnUlidTextRow.holds Try.pinned (OpenSpec.ofChange fnUlidTextSpec)

/-- ITS FALSE NEIGHBOUR: 'it returns false'. Refute it at one input. -/
def fnUlidTextWrong : ChangeSpec := { name := "fnUlidText", fn := fun _ => fun
  | [d] => { results := [.lit (.bool false)], args := [d] }
  | _ => none }
def FnUlidTextWrongFalsely : Prop := fnUlidTextRow.holds Try.pinned (OpenSpec.ofChange fnUlidTextWrong)

/-- 'laws.FnUlidMonotone': WHATEVER THE INPUT: true; the input reads as it did. -/
def fnUlidMonotoneSpec : ChangeSpec := { name := "fnUlidMonotone", fn := fun _ => fun
  | [d1, d2, d3] => { results := [.lit (.bool true)], args := [d1, d2, d3] }
  | _ => none }
def fnUlidMonotoneRow : OpenClaim := { program := "ytpnpgckpjlbmdaa", sum := "daa8b58cca4ac3a1f9f3bb1dbfe7ea2257d6d7f6f153675dd6f3e681167cf9bd", func := "loop.example/pub-namesbyclock/laws.FnUlidMonotone", spec := "fnUlidMonotone", unfollowed := true, recurses := true, apart := false }
def FnUlidMonotoneSaid : Prop := fnUlidMonotoneRow.holds Try.pinned (OpenSpec.ofChange fnUlidMonotoneSpec)

/-- ITS FALSE NEIGHBOUR: 'it returns false'. Refute it at one input. -/
def fnUlidMonotoneWrong : ChangeSpec := { name := "fnUlidMonotone", fn := fun _ => fun
  | [d1, d2, d3] => { results := [.lit (.bool false)], args := [d1, d2, d3] }
  | _ => none }
def FnUlidMonotoneWrongFalsely : Prop := fnUlidMonotoneRow.holds Try.pinned (OpenSpec.ofChange fnUlidMonotoneWrong)

/-- 'laws.FnUlidMake': WHATEVER THE INPUT: true; the input reads as it did. -/
def fnUlidMakeSpec : ChangeSpec := { name := "fnUlidMake", fn := fun _ => fun
  | [d1, d2] => { results := [.lit (.bool true)], args := [d1, d2] }
  | _ => none }
def fnUlidMakeRow : OpenClaim := { program := "ytpnpgckpjlbmdaa", sum := "daa8b58cca4ac3a1f9f3bb1dbfe7ea2257d6d7f6f153675dd6f3e681167cf9bd", func := "loop.example/pub-namesbyclock/laws.FnUlidMake", spec := "fnUlidMake", unfollowed := true, recurses := true, apart := false }
def FnUlidMakeSaid : Prop := fnUlidMakeRow.holds Try.pinned (OpenSpec.ofChange fnUlidMakeSpec)

/-- ITS FALSE NEIGHBOUR: 'it returns false'. Refute it at one input. -/
def fnUlidMakeWrong : ChangeSpec := { name := "fnUlidMake", fn := fun _ => fun
  | [d1, d2] => { results := [.lit (.bool false)], args := [d1, d2] }
  | _ => none }
def FnUlidMakeWrongFalsely : Prop := fnUlidMakeRow.holds Try.pinned (OpenSpec.ofChange fnUlidMakeWrong)

/- THE SECOND FORM. 'bulk': how many values and letters a reading holds, each counted each time it is reached (what is shared counts as often as it is met; a slice's spare places count too). A statement '..UptoSaid' is the law's where the arguments, and the package variables that the reading takes, are together of bulk at most 1048576: NARROWER than '..Said'. Prove '..Said' where nothing that the law and all that it calls make is longer than what came in: it says more and counts as full. Else prove '..UptoSaid'. A law counts once. -/
mutual
def uptoBulk {H : Type} : DataW H → Nat
  | .lit (.string bytes) => bytes.length + 1
  | .lit _ => 1
  | .nil => 1
  | .ptr d => uptoBulk d + 1
  | .slice elems spare => uptoBulkAll elems + uptoBulkAll spare + 1
  | .agg parts => uptoBulkAll parts + 1
  | .iface _ d => uptoBulk d + 1
  | .map entries => uptoBulkEntries entries + 1
  | .held _ => 1
def uptoBulkAll {H : Type} : List (DataW H) → Nat
  | [] => 0
  | d :: r => uptoBulk d + uptoBulkAll r
def uptoBulkEntries {H : Type} : List (Lit × DataW H) → Nat
  | [] => 0
  | x :: r => uptoBulkEntry x + uptoBulkEntries r
def uptoBulkEntry {H : Type} : Lit × DataW H → Nat
  | (.string bytes, d) => bytes.length + uptoBulk d + 1
  | (_, d) => uptoBulk d + 1
 end
def uptoSmall : (H : Type) → List (DataW H) → Bool := fun _ ds => decide (uptoBulkAll ds ≤ 1048576)
def OpenSpec.upto (s : _root_.Go.ChangeSpec) : _root_.Go.OpenSpec := { _root_.Go.OpenSpec.ofChange s with cond := some uptoSmall }

/-- 'laws.FnUlidOrder', WHERE WHAT IT READS IS OF BULK AT MOST 1048576: true; the input reads as it did. -/
def fnUlidOrderUptoRow : OpenClaim := { program := "ytpnpgckpjlbmdaa", sum := "daa8b58cca4ac3a1f9f3bb1dbfe7ea2257d6d7f6f153675dd6f3e681167cf9bd", func := "loop.example/pub-namesbyclock/laws.FnUlidOrder", spec := "fnUlidOrder", inPlace := ["internal/bytealg.Compare"], apart := false, narrowed := true }
def FnUlidOrderUptoSaid : Prop := fnUlidOrderUptoRow.holds Try.pinned (OpenSpec.upto fnUlidOrderSpec)

/-- 'laws.FnUlidSetTime', WHERE WHAT IT READS IS OF BULK AT MOST 1048576: true; the input reads as it did. -/
def fnUlidSetTimeUptoRow : OpenClaim := { program := "ytpnpgckpjlbmdaa", sum := "daa8b58cca4ac3a1f9f3bb1dbfe7ea2257d6d7f6f153675dd6f3e681167cf9bd", func := "loop.example/pub-namesbyclock/laws.FnUlidSetTime", spec := "fnUlidSetTime", apart := false, narrowed := true }
def FnUlidSetTimeUptoSaid : Prop := fnUlidSetTimeUptoRow.holds Try.pinned (OpenSpec.upto fnUlidSetTimeSpec)

/-- 'laws.FnUlidText', WHERE WHAT IT READS IS OF BULK AT MOST 1048576: true; the input reads as it did. -/
def fnUlidTextUptoRow : OpenClaim := { program := "ytpnpgckpjlbmdaa", sum := "daa8b58cca4ac3a1f9f3bb1dbfe7ea2257d6d7f6f153675dd6f3e681167cf9bd", func := "loop.example/pub-namesbyclock/laws.FnUlidText", spec := "fnUlidText", apart := false, narrowed := true }
def FnUlidTextUptoSaid : Prop := fnUlidTextUptoRow.holds Try.pinned (OpenSpec.upto fnUlidTextSpec)

/-- 'laws.FnUlidMonotone', WHERE WHAT IT READS IS OF BULK AT MOST 1048576: true; the input reads as it did. -/
def fnUlidMonotoneUptoRow : OpenClaim := { program := "ytpnpgckpjlbmdaa", sum := "daa8b58cca4ac3a1f9f3bb1dbfe7ea2257d6d7f6f153675dd6f3e681167cf9bd", func := "loop.example/pub-namesbyclock/laws.FnUlidMonotone", spec := "fnUlidMonotone", unfollowed := true, recurses := true, apart := false, narrowed := true }
def FnUlidMonotoneUptoSaid : Prop := fnUlidMonotoneUptoRow.holds Try.pinned (OpenSpec.upto fnUlidMonotoneSpec)

/-- 'laws.FnUlidMake', WHERE WHAT IT READS IS OF BULK AT MOST 1048576: true; the input reads as it did. -/
def fnUlidMakeUptoRow : OpenClaim := { program := "ytpnpgckpjlbmdaa", sum := "daa8b58cca4ac3a1f9f3bb1dbfe7ea2257d6d7f6f153675dd6f3e681167cf9bd", func := "loop.example/pub-namesbyclock/laws.FnUlidMake", spec := "fnUlidMake", unfollowed := true, recurses := true, apart := false, narrowed := true }
def FnUlidMakeUptoSaid : Prop := fnUlidMakeUptoRow.holds Try.pinned (OpenSpec.upto fnUlidMakeSpec)

end Rows
end Go.Proofs.Ytpnpgckpjlbmdaa
