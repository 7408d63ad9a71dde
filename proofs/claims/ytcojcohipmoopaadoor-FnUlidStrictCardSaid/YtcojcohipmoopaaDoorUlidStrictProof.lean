/- For every input the law FnUlidStrict returns true, and its arguments read behind the call as they read before; the card ties the listed tables to the program's text. No condition. -/
import Derived.Test.YtcojcohipmoopaaDoorUlidStrictWalk
import Derived.Test.YtcojcohipmoopaaDoorArgs
import Derived.Test.YtcojcohipmoopaaDoorTie
import Derived.Test.YtcojcohipmoopaaDoorCards
import Derived.WalkKit
import Derived.ProofKit
import Derived.OpenShut
import Derived.ShutString
import Derived.ChangeOld
import Derived.Below
import Derived.OpenVars
import Derived.LaidMore
import Derived.Lay
import Derived.SevenTiedAt
import Derived.Lib.LaidTab
import Derived.Stop.LaidErr
import Derived.MakeChecks
namespace Go.Proofs.YtcojcohipmoopaaDoor.fnUlidStrict
open Go.ChangeShapes Go.WideShapes Go.ChangeAt Go.RowKit
open Go.ChangeMaps (open_string shut_string)
set_option linter.unusedVariables false

theorem own : ownKnob Tryd.prog.godebug = none := by kernel_rfl
theorem laidOut : laidOutB Tryd.prog = true := by kernel_rfl
/-- The table as the row lists it. -/
theorem datum : (Rows.laid_loop_example_pub_namesbyclock_pub_oklogulid_dec : DataW Unit) = Lib.tabData .u8 dvals := by kernel_rfl
theorem table {W : World} (h : laidMetH Tryd.prog Rows.fnUlidStrictRow.laid W) : Lib.TabIs Tryd.prog W "loop.example/pub-namesbyclock/pub/oklogulid.dec" .u8 dvals := by
  rw [MakeChecks.laidMetH_plain _ _ _ (by kernel_rfl)] at h
  have h1 : laidMet Tryd.prog (("loop.example/pub-namesbyclock/pub/oklogulid.dec", Rows.laid_loop_example_pub_namesbyclock_pub_oklogulid_dec) :: _) W := h
  have h2 := h1
  rw [datum] at h2
  exact Lib.tabIs_of_head (show Tryd.prog.globalNamed "loop.example/pub-namesbyclock/pub/oklogulid.dec" = some 0 by kernel_rfl) (show (Tryd.prog.globals[0]?).map (·.type) = some 52 by kernel_rfl) Tryd.underlying52 Tryd.underlying5 (by kernel_rfl) (by kernel_rfl) h2

set_option maxRecDepth 100000 in
theorem lifted (os : Os) (started : os.Started) (H : Type) (enc : TypeId × Value → H) :
    ReturnsInHanded {} Tryd.checked os 4 .any (fun w args => (Rows.fnUlidStrictSpec.pre enc Tryd.prog Tryd.f4 Rows.fnUlidStrictRow.domain false w args ∧ laidMetH Tryd.prog Rows.fnUlidStrictRow.laid w) ∧ sizedMet enc Tryd.prog Tryd.f4 (OpenSpec.ofChange Rows.fnUlidStrictSpec) false w args)
      (Rows.fnUlidStrictSpec.post enc Tryd.prog Tryd.f4 false true false false) := by
  refine returnsInHanded_of_change_and (C := Tryd.checked) (X := fun w _ => laidMetH Tryd.prog Rows.fnUlidStrictRow.laid w) (fun _ _ _ hh h => h.of_heap hh) own started (by kernel_rfl) Tryd.func4
    (ChangeSpec.witness_shaped (enc := enc) (C := Tryd.checked) (os := os) (X := fun w _ => laidMetH Tryd.prog Rows.fnUlidStrictRow.laid w) false (World.laidAll Tryd.prog os Rows.fnUlidStrictRow.laid) #[.string ByteArray.empty] 8 (World.laidAll_os _ _ _)
      (World.shaped_of_ZipB (by kernel_rfl) (by kernel_rfl)) (by kernel_rfl) (by kernel_rfl) (by kernel_rfl)
      (by rw [MakeChecks.laidMetH_plain _ _ _ (by kernel_rfl)]; exact laidMet_laidAll _ (by kernel_rfl) (by kernel_rfl))) ?_
  intro W base args ds gs before hval0 hW _ _ hL _
  have hval : ∀ (j : Nat) t v, Tryd.f4.params[j]? = some t → args[j]? = some v → Value.okWide Tryd.prog W .any base t v := hval0
  have hW' := hW
  obtain ⟨p, q, hA0, hV, rfl, hfz, hnd⟩ := hW
  have hA : DataW.TrodAll enc Tryd.prog W 0 (fun _ => true) true Tryd.f4.params.toList args.toList ds p := hA0
  rw [Tryd.params4] at hA hval
  obtain ⟨v0, vs0, d0, ds0, p0, q0, hargs, rfl, rfl, h0, r0⟩ := trodAll_cons hA
  obtain ⟨rfl, rfl, rfl⟩ := trodAll_nil r0
  obtain rfl : args = #[v0] := by cases args; simp_all
  obtain ⟨_, _, _, _, g1, _, rfl, _, _, _, _, _⟩ := trodVars_one hV
  obtain ⟨a0, rfl, rfl, rfl, w0⟩ := open_string Tryd.underlying9 (hval 0 9 v0 rfl rfl) h0
  clear hA0 hval0
  refine (ulidStrict_walk a0 W (dtab_of (table hL)) w0).mono fun e W' ⟨he, bel⟩ => ?_
  subst he
  exact ⟨_, rfl, _, _, _, [], _, q, hW', trodAll_mk1 (shut_bool Tryd.underlying4 _), (trodAll_cons_mk (shut_string Tryd.underlying9 w0) trodAll_mk0), bel.trodVars laidOut (by kernel_rfl) hV, bel.frame _, fun h => by cases h⟩

theorem over : Rows.fnUlidStrictRow.holds Tryd.pinned (OpenSpec.ofChange Rows.fnUlidStrictSpec) :=
  OpenClaim.holds_of_wide 4 Tryd.f4 rfl rfl rfl rfl rfl rfl rfl ⟨rfl, rfl, rfl, rfl, rfl⟩ rfl rfl rfl rfl rfl (by kernel_rfl) Tryd.func4 (by kernel_rfl)
    (of_decide_eq_true (by kernel_rfl)) (by unfold Func.isWrapper; first | (rw [if_pos (by decide +kernel)]; kernel_rfl) | (rw [if_neg (by decide +kernel)]; exact ⟨rfl, rfl⟩))
    (fun os started H enc _ => lifted os started H enc)

/-- The given statement. -/
theorem proved : Rows.FnUlidStrictCardSaid :=
  Claim7.holds_tied_plain_at .later [] [.data] true (true, "e71c3861387957069babbe0341428c4d2aeb321a2aa9ebb79c9df8aea4063002") false over (fun _ h => by cases h) (by kernel_rfl) (fun _ h => by cases h) fnUlidStrict_row_tie rfl ⟨rfl, rfl⟩ (by kernel_rfl) rfl
    (fun f fn hf hfn => by
      obtain rfl : f = 4 := Option.some.inj ((show Tryd.prog.funcNamed "loop.example/pub-namesbyclock/laws.FnUlidStrict" = some 4 by kernel_rfl).symm.trans hf) |>.symm
      obtain rfl : fn = Tryd.f4 := (Option.some.inj (Tryd.func4.symm.trans hfn)).symm
      exact ⟨by kernel_rfl, fun j t ht => by
        rw [Tryd.params4] at ht
        have hm : t ∈ [9] := by simpa using Array.mem_of_getElem? ht
        have hall : ([9].all fun u => !Tryd.prog.wantsStandIn u) = true := by kernel_rfl
        exact (show Tryd.prog.wantsStandIn t = false by simpa using List.all_eq_true.1 hall t hm)⟩)
    (by kernel_rfl)
#print axioms proved
end Go.Proofs.YtcojcohipmoopaaDoor.fnUlidStrict
