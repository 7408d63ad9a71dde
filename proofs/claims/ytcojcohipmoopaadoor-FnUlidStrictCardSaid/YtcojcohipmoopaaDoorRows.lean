/-
  NARROWER THAN 'FOR EVERY INPUT', by the rows' own cells (each row's printed sentence says how): FnUlidRead: laid · FnUlidStrict: laid.
  DERIVED. THE GIVEN ROWS OF THIS SEAT. 2 by the template 'for every input the law returns true; each argument reads behind the call as it read before'; 0 by the template 'total and deterministic' (their statements: YtcojcohipmoopaaDoorTotals.lean).
  GIVEN WITH THE SEED: the statements are not yours to turn. If you find one false, say at which input.
  Laid BY PROGRAM, IN A SANDBOX (cutbox-rows.mjs): the forced cells as the released guide's own fill.sh prints them over the translation aca765f7d289c6af… (all of the seat's roots in one cut). By AI agents, Wed Nov 11 2026. No macro, syntax, notation, axiom, sorry.
-/
import Derived.Test.YtcojcohipmoopaaDoorChecked
import GoSem.Claim
import GoSem.ClaimJoined
import GoSem.ClaimMapViews
import Derived.JoinedTies
import Derived.KernelRfl
namespace Go.Proofs.YtcojcohipmoopaaDoor
/- THE CELL 'sum', in the pinned program and in every row, IS THE sha256 OF THE DUMP (.gsa) THAT YtcojcohipmoopaaDoorProg.lean LOADS. Nothing in Lean hashes anything: it is a label: what it is worth is what the hold of that sum in a sandbox is worth. -/
noncomputable def Tryd.pinned : Pinned := { name := "ytcojcohipmoopaadoor", sum := "aca765f7d289c6afb7c99b9103a16203ef620784adbe69b2476f1d8c00bb5c41", checked := Tryd.checked }
namespace Rows
def none {H : Type} : Left H := { results := [], args := [] }

/- WHAT THE LISTED PACKAGE-LEVEL VARIABLES READ AS WHEN THE CALL BEGINS. Each datum BY PROGRAM (the guide's laid-datum.mjs) off the statement by which the dump's own 'gosem.cut.vars' lays the variable. In a bare row this is a premise. The card (YtcojcohipmoopaaDoorCards.lean) ties it to the program's text. -/
def laid_loop_example_pub_namesbyclock_pub_oklogulid_dec {H : Type} : DataW H := .agg [.lit (.int .u8 255), .lit (.int .u8 255), .lit (.int .u8 255), .lit (.int .u8 255), .lit (.int .u8 255), .lit (.int .u8 255), .lit (.int .u8 255), .lit (.int .u8 255), .lit (.int .u8 255), .lit (.int .u8 255), .lit (.int .u8 255), .lit (.int .u8 255), .lit (.int .u8 255), .lit (.int .u8 255), .lit (.int .u8 255), .lit (.int .u8 255), .lit (.int .u8 255), .lit (.int .u8 255), .lit (.int .u8 255), .lit (.int .u8 255), .lit (.int .u8 255), .lit (.int .u8 255), .lit (.int .u8 255), .lit (.int .u8 255), .lit (.int .u8 255), .lit (.int .u8 255), .lit (.int .u8 255), .lit (.int .u8 255), .lit (.int .u8 255), .lit (.int .u8 255), .lit (.int .u8 255), .lit (.int .u8 255), .lit (.int .u8 255), .lit (.int .u8 255), .lit (.int .u8 255), .lit (.int .u8 255), .lit (.int .u8 255), .lit (.int .u8 255), .lit (.int .u8 255), .lit (.int .u8 255), .lit (.int .u8 255), .lit (.int .u8 255), .lit (.int .u8 255), .lit (.int .u8 255), .lit (.int .u8 255), .lit (.int .u8 255), .lit (.int .u8 255), .lit (.int .u8 255), .lit (.int .u8 0), .lit (.int .u8 1), .lit (.int .u8 2), .lit (.int .u8 3), .lit (.int .u8 4), .lit (.int .u8 5), .lit (.int .u8 6), .lit (.int .u8 7), .lit (.int .u8 8), .lit (.int .u8 9), .lit (.int .u8 255), .lit (.int .u8 255), .lit (.int .u8 255), .lit (.int .u8 255), .lit (.int .u8 255), .lit (.int .u8 255), .lit (.int .u8 255), .lit (.int .u8 10), .lit (.int .u8 11), .lit (.int .u8 12), .lit (.int .u8 13), .lit (.int .u8 14), .lit (.int .u8 15), .lit (.int .u8 16), .lit (.int .u8 17), .lit (.int .u8 255), .lit (.int .u8 18), .lit (.int .u8 19), .lit (.int .u8 255), .lit (.int .u8 20), .lit (.int .u8 21), .lit (.int .u8 255), .lit (.int .u8 22), .lit (.int .u8 23), .lit (.int .u8 24), .lit (.int .u8 25), .lit (.int .u8 26), .lit (.int .u8 255), .lit (.int .u8 27), .lit (.int .u8 28), .lit (.int .u8 29), .lit (.int .u8 30), .lit (.int .u8 31), .lit (.int .u8 255), .lit (.int .u8 255), .lit (.int .u8 255), .lit (.int .u8 255), .lit (.int .u8 255), .lit (.int .u8 255), .lit (.int .u8 10), .lit (.int .u8 11), .lit (.int .u8 12), .lit (.int .u8 13), .lit (.int .u8 14), .lit (.int .u8 15), .lit (.int .u8 16), .lit (.int .u8 17), .lit (.int .u8 255), .lit (.int .u8 18), .lit (.int .u8 19), .lit (.int .u8 255), .lit (.int .u8 20), .lit (.int .u8 21), .lit (.int .u8 255), .lit (.int .u8 22), .lit (.int .u8 23), .lit (.int .u8 24), .lit (.int .u8 25), .lit (.int .u8 26), .lit (.int .u8 255), .lit (.int .u8 27), .lit (.int .u8 28), .lit (.int .u8 29), .lit (.int .u8 30), .lit (.int .u8 31), .lit (.int .u8 255), .lit (.int .u8 255), .lit (.int .u8 255), .lit (.int .u8 255), .lit (.int .u8 255), .lit (.int .u8 255), .lit (.int .u8 255), .lit (.int .u8 255), .lit (.int .u8 255), .lit (.int .u8 255), .lit (.int .u8 255), .lit (.int .u8 255), .lit (.int .u8 255), .lit (.int .u8 255), .lit (.int .u8 255), .lit (.int .u8 255), .lit (.int .u8 255), .lit (.int .u8 255), .lit (.int .u8 255), .lit (.int .u8 255), .lit (.int .u8 255), .lit (.int .u8 255), .lit (.int .u8 255), .lit (.int .u8 255), .lit (.int .u8 255), .lit (.int .u8 255), .lit (.int .u8 255), .lit (.int .u8 255), .lit (.int .u8 255), .lit (.int .u8 255), .lit (.int .u8 255), .lit (.int .u8 255), .lit (.int .u8 255), .lit (.int .u8 255), .lit (.int .u8 255), .lit (.int .u8 255), .lit (.int .u8 255), .lit (.int .u8 255), .lit (.int .u8 255), .lit (.int .u8 255), .lit (.int .u8 255), .lit (.int .u8 255), .lit (.int .u8 255), .lit (.int .u8 255), .lit (.int .u8 255), .lit (.int .u8 255), .lit (.int .u8 255), .lit (.int .u8 255), .lit (.int .u8 255), .lit (.int .u8 255), .lit (.int .u8 255), .lit (.int .u8 255), .lit (.int .u8 255), .lit (.int .u8 255), .lit (.int .u8 255), .lit (.int .u8 255), .lit (.int .u8 255), .lit (.int .u8 255), .lit (.int .u8 255), .lit (.int .u8 255), .lit (.int .u8 255), .lit (.int .u8 255), .lit (.int .u8 255), .lit (.int .u8 255), .lit (.int .u8 255), .lit (.int .u8 255), .lit (.int .u8 255), .lit (.int .u8 255), .lit (.int .u8 255), .lit (.int .u8 255), .lit (.int .u8 255), .lit (.int .u8 255), .lit (.int .u8 255), .lit (.int .u8 255), .lit (.int .u8 255), .lit (.int .u8 255), .lit (.int .u8 255), .lit (.int .u8 255), .lit (.int .u8 255), .lit (.int .u8 255), .lit (.int .u8 255), .lit (.int .u8 255), .lit (.int .u8 255), .lit (.int .u8 255), .lit (.int .u8 255), .lit (.int .u8 255), .lit (.int .u8 255), .lit (.int .u8 255), .lit (.int .u8 255), .lit (.int .u8 255), .lit (.int .u8 255), .lit (.int .u8 255), .lit (.int .u8 255), .lit (.int .u8 255), .lit (.int .u8 255), .lit (.int .u8 255), .lit (.int .u8 255), .lit (.int .u8 255), .lit (.int .u8 255), .lit (.int .u8 255), .lit (.int .u8 255), .lit (.int .u8 255), .lit (.int .u8 255), .lit (.int .u8 255), .lit (.int .u8 255), .lit (.int .u8 255), .lit (.int .u8 255), .lit (.int .u8 255), .lit (.int .u8 255), .lit (.int .u8 255), .lit (.int .u8 255), .lit (.int .u8 255), .lit (.int .u8 255), .lit (.int .u8 255), .lit (.int .u8 255), .lit (.int .u8 255), .lit (.int .u8 255), .lit (.int .u8 255), .lit (.int .u8 255), .lit (.int .u8 255), .lit (.int .u8 255), .lit (.int .u8 255), .lit (.int .u8 255), .lit (.int .u8 255), .lit (.int .u8 255), .lit (.int .u8 255), .lit (.int .u8 255), .lit (.int .u8 255), .lit (.int .u8 255), .lit (.int .u8 255), .lit (.int .u8 255), .lit (.int .u8 255), .lit (.int .u8 255)]

/-- 'laws.FnUlidRead': WHATEVER THE INPUT: true; the input reads as it did. -/
def fnUlidReadSpec : ChangeSpec := { name := "fnUlidRead", vars := ["loop.example/pub-namesbyclock/pub/oklogulid.dec"], fn := fun _ => fun
  | [d1, d2, d3, g1] => { results := [.lit (.bool true)], args := [d1, d2, d3], vars := [g1] }
  | _ => none }
def fnUlidReadRow : OpenClaim := { program := "ytcojcohipmoopaadoor", sum := "aca765f7d289c6afb7c99b9103a16203ef620784adbe69b2476f1d8c00bb5c41", func := "loop.example/pub-namesbyclock/laws.FnUlidRead", spec := "fnUlidRead", named := ["loop.example/pub-namesbyclock/pub/oklogulid.dec"], apart := false, laid := [("loop.example/pub-namesbyclock/pub/oklogulid.dec", laid_loop_example_pub_namesbyclock_pub_oklogulid_dec)] }
def FnUlidReadSaid : Prop := fnUlidReadRow.holds Tryd.pinned (OpenSpec.ofChange fnUlidReadSpec)

/-- ITS FALSE NEIGHBOUR: 'it returns false'. Refute it at one input. -/
def fnUlidReadWrong : ChangeSpec := { name := "fnUlidRead", vars := ["loop.example/pub-namesbyclock/pub/oklogulid.dec"], fn := fun _ => fun
  | [d1, d2, d3, g1] => { results := [.lit (.bool false)], args := [d1, d2, d3], vars := [g1] }
  | _ => none }
def FnUlidReadWrongFalsely : Prop := fnUlidReadRow.holds Tryd.pinned (OpenSpec.ofChange fnUlidReadWrong)

/-- 'laws.FnUlidStrict': WHATEVER THE INPUT: true; the input reads as it did. -/
def fnUlidStrictSpec : ChangeSpec := { name := "fnUlidStrict", vars := ["loop.example/pub-namesbyclock/pub/oklogulid.dec"], fn := fun _ => fun
  | [d, g1] => { results := [.lit (.bool true)], args := [d], vars := [g1] }
  | _ => none }
def fnUlidStrictRow : OpenClaim := { program := "ytcojcohipmoopaadoor", sum := "aca765f7d289c6afb7c99b9103a16203ef620784adbe69b2476f1d8c00bb5c41", func := "loop.example/pub-namesbyclock/laws.FnUlidStrict", spec := "fnUlidStrict", named := ["loop.example/pub-namesbyclock/pub/oklogulid.dec"], apart := false, laid := [("loop.example/pub-namesbyclock/pub/oklogulid.dec", laid_loop_example_pub_namesbyclock_pub_oklogulid_dec)] }
def FnUlidStrictSaid : Prop := fnUlidStrictRow.holds Tryd.pinned (OpenSpec.ofChange fnUlidStrictSpec)

/-- ITS FALSE NEIGHBOUR: 'it returns false'. Refute it at one input. -/
def fnUlidStrictWrong : ChangeSpec := { name := "fnUlidStrict", vars := ["loop.example/pub-namesbyclock/pub/oklogulid.dec"], fn := fun _ => fun
  | [d, g1] => { results := [.lit (.bool false)], args := [d], vars := [g1] }
  | _ => none }
def FnUlidStrictWrongFalsely : Prop := fnUlidStrictRow.holds Tryd.pinned (OpenSpec.ofChange fnUlidStrictWrong)

/- THE SECOND FORM. 'bulk': how many values and letters a reading holds, each counted each time it is reached (what is shared counts as often as it is met; a slice's spare places count too). A statement '..UptoSaid' is the law's where the arguments, and the package variables that the reading takes, are together of bulk at most 1048576: NARROWER than '..Said'. Prove '..Said' where nothing that the law and all that it calls make is longer than what came in: it says more and counts as full. Else prove '..UptoSaid'. A law counts once. -/
mutual
def uptoBulk {H : Type} : DataW H → Nat
  | .lit (.string bytes) => bytes.length + 1
  | .lit _ => 1
  | .nil => 1
  | .ptr d => uptoBulk d + 1
  | .slice elems spare => uptoBulkAll elems + uptoBulkAll spare + 1
  | .agg parts => uptoBulkAll parts + 1
  | .iface _ d => uptoBulk d + 1
  | .map entries => uptoBulkEntries entries + 1
  | .held _ => 1
def uptoBulkAll {H : Type} : List (DataW H) → Nat
  | [] => 0
  | d :: r => uptoBulk d + uptoBulkAll r
def uptoBulkEntries {H : Type} : List (Lit × DataW H) → Nat
  | [] => 0
  | x :: r => uptoBulkEntry x + uptoBulkEntries r
def uptoBulkEntry {H : Type} : Lit × DataW H → Nat
  | (.string bytes, d) => bytes.length + uptoBulk d + 1
  | (_, d) => uptoBulk d + 1
 end
def uptoSmall : (H : Type) → List (DataW H) → Bool := fun _ ds => decide (uptoBulkAll ds ≤ 1048576)
def OpenSpec.upto (s : _root_.Go.ChangeSpec) : _root_.Go.OpenSpec := { _root_.Go.OpenSpec.ofChange s with cond := some uptoSmall }

/-- 'laws.FnUlidRead', WHERE WHAT IT READS IS OF BULK AT MOST 1048576: true; the input reads as it did. -/
def fnUlidReadUptoRow : OpenClaim := { program := "ytcojcohipmoopaadoor", sum := "aca765f7d289c6afb7c99b9103a16203ef620784adbe69b2476f1d8c00bb5c41", func := "loop.example/pub-namesbyclock/laws.FnUlidRead", spec := "fnUlidRead", named := ["loop.example/pub-namesbyclock/pub/oklogulid.dec"], apart := false, laid := [("loop.example/pub-namesbyclock/pub/oklogulid.dec", laid_loop_example_pub_namesbyclock_pub_oklogulid_dec)], narrowed := true }
def FnUlidReadUptoSaid : Prop := fnUlidReadUptoRow.holds Tryd.pinned (OpenSpec.upto fnUlidReadSpec)

/-- 'laws.FnUlidStrict', WHERE WHAT IT READS IS OF BULK AT MOST 1048576: true; the input reads as it did. -/
def fnUlidStrictUptoRow : OpenClaim := { program := "ytcojcohipmoopaadoor", sum := "aca765f7d289c6afb7c99b9103a16203ef620784adbe69b2476f1d8c00bb5c41", func := "loop.example/pub-namesbyclock/laws.FnUlidStrict", spec := "fnUlidStrict", named := ["loop.example/pub-namesbyclock/pub/oklogulid.dec"], apart := false, laid := [("loop.example/pub-namesbyclock/pub/oklogulid.dec", laid_loop_example_pub_namesbyclock_pub_oklogulid_dec)], narrowed := true }
def FnUlidStrictUptoSaid : Prop := fnUlidStrictUptoRow.holds Tryd.pinned (OpenSpec.upto fnUlidStrictSpec)

end Rows
end Go.Proofs.YtcojcohipmoopaaDoor
