/- The contract of the reference's UuidText. -/
import Derived.Test.YtdjppileeeljnaaDoorHex
import Derived.Test.YtdjppileeeljnaaDoorStr
namespace Go.Proofs.YtdjppileeeljnaaDoor
open Go.RowKit
set_option linter.unusedVariables false
set_option linter.unusedSimpArgs false
/-- The digits of the bytes, in parts. -/
theorem utext_parts (x : List UInt8) (hx : x.length = 16) :
    (((((((hexL x).take 8 ++ [45] ++ ((hexL x).drop 8).take 4) ++ [45]) ++ ((hexL x).drop 12).take 4) ++ [45]) ++ ((hexL x).drop 16).take 4) ++ [45]) ++ (hexL x).drop 20 = utext x := by
  match x, hx with
  | [a0, a1, a2, a3, a4, a5, a6, a7, a8, a9, a10, a11, a12, a13, a14, a15], _ => rfl
set_option maxRecDepth 100000 in
theorem specText_ok (a1 : Option Addr) (x : List UInt8) (c1 : Nat) (w : World) (h1 : Rd w a1 x) (hx : x.length = 16) :
    Calls Tryd.prog 8 #[.slice a1 16 c1] w fun e w' => e = .returned (str (utext x)) ∧ Below w.heap.size w w' := by
  have hw := write_ok a1 x c1 d16 32 w h1 (by omega) (by omega) (by decide) (by decide) (by decide)
  have hh := writ_hex x
  rw [hx] at hw hh
  rw [show 2 * 16 = 32 from rfl] at hh
  rw [hh] at hw
  have HW := Lib.hid hw
  have HP := Lib.hid (utext_parts x hx)
  have LH := Lib.hid (show (hexL x).length = 32 by rw [hexL_length, hx])
  clear hw hh hx
  generalize hexL x = h at *
  go_enter Tryd.func8, Tryd.ntmps8
  go_wp2_with (go_at_call 10; refine HW.out.mono ?_)
  rintro e w2 ⟨rfl, hb2⟩
  go_wp2_with fail
  refine region_plan (fun w' => Below w2.heap.size w2 w') [(0, 0), (1, 0), (2, 0), (3, 0), (4, 0), (5, 0), (6, 0), (7, 0), (8, 0), (9, 0), (10, 0), (11, 0), (12, 0), (13, 0), (14, 0), (15, 0), (16, 0), (17, 0), (18, 0)] rfl (by kernel_rfl) (by kernel_rfl) rfl (by intro c a d v w h; cases d <;> exact h) (fun _ _ h => h) ?_
  intro w3 hpW hb3
  clear hpW
  simp only [planOps, List.filterMap_cons, List.filterMap_nil, List.getElem?_cons_succ, List.getElem?_cons_zero, Option.map_some]
  repeat (first | (refine plan_still rfl (still_str_to (p := h) rfl Tryd.underlying9 rfl 8 rfl (by rw [LH.out]; decide)) ?_) | (refine plan_still rfl (still_str_ij (p := h) rfl Tryd.underlying9 rfl 8 12 rfl rfl (by decide) (by rw [LH.out]; decide)) ?_) | (refine plan_still rfl (still_str_ij (p := h) rfl Tryd.underlying9 rfl 12 16 rfl rfl (by decide) (by rw [LH.out]; decide)) ?_) | (refine plan_still rfl (still_str_ij (p := h) rfl Tryd.underlying9 rfl 16 20 rfl rfl (by decide) (by rw [LH.out]; decide)) ?_) | (refine plan_still rfl (still_str_from (p := h) rfl Tryd.underlying9 rfl 20 rfl (by rw [LH.out]; decide)) ?_) | (refine plan_still rfl (still_str_add (q := [45]) rfl rfl rfl (by simp [LH.out])) ?_) | (refine plan_still rfl (still_str_add rfl rfl rfl (by simp [LH.out])) ?_) | (refine plan_skip rfl ?_) | (refine plan_still (v := ?_) rfl (fun w' hS => ?_) ?_; rotate_left; (focus (go_simp; first | done | with_reducible rfl))); simp only [Act.put, List.setIfInBounds_toArray, List.set_cons_zero, List.set_cons_succ])
  refine plan_nil ?_
  go_wp2
  go_ret
  exact ⟨congrArg (fun l => Ending.returned (str l)) (by have := HP.out; simpa only [List.append_assoc, List.cons_append, List.nil_append] using this), hb2.trans (hb3.mono hb2.size)⟩
end Go.Proofs.YtdjppileeeljnaaDoor
