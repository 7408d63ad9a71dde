/- The law FnUuidLength returns true, and turns nothing that was there. -/
import Derived.Test.YtdjppileeeljnaaDoorUuidRW
namespace Go.Proofs.YtdjppileeeljnaaDoor
open Go.RowKit
set_option linter.unusedVariables false
set_option linter.unusedSimpArgs false

set_option maxRecDepth 100000 in
theorem uuidLength_walk (s : ByteArray) (w : World) (hT : XTab w) (_hs : s.size ≤ maxLen) :
    Calls Tryd.prog 3 #[.string s] w fun e w' => e = .returned (.bool true) ∧ Below w.heap.size w w' := by
  have hb := Below.refl w.heap.size w
  have HT := Lib.hid hT
  clear hT _hs
  by_cases hbig : 2147483647 < s.size
  · go_enter Tryd.func3, Tryd.ntmps3
    go_wp2
    go_ret
    exact ⟨rfl, hb⟩
  · by_cases h : s.size = 32 ∨ s.size = 36 ∨ s.size = 38 ∨ s.size = 45
    · rcases h with h | h | h | h
      all_goals
        go_enter Tryd.func3, Tryd.ntmps3
        go_wp2
        go_ret
        exact ⟨rfl, hb⟩
    · have h32 : s.size ≠ 32 := by omega
      have h36 : s.size ≠ 36 := by omega
      have h38 : s.size ≠ 38 := by omega
      have h45 : s.size ≠ 45 := by omega
      have hsz : s.size ≤ 2147483647 := by omega
      have n36 : ((s.size : Int) == 36) = false := by rw [beq_eq_false_iff_ne]; omega
      have n45 : ((s.size : Int) == 45) = false := by rw [beq_eq_false_iff_ne]; omega
      have n38 : ((s.size : Int) == 38) = false := by rw [beq_eq_false_iff_ne]; omega
      have n32 : ((s.size : Int) == 32) = false := by rw [beq_eq_false_iff_ne]; omega
      have HR := Lib.hid (uuidRead_bad s w (parse_len s w hsz h36 h45 h38 h32))
      have HV : Hid (∀ w', Calls Tryd.prog 7 #[.string s] w' fun e w'' => e = .returned (.bool false) ∧ Below w'.heap.size w' w'') := Lib.hid (fun w' => uuidValid_bad s w' (val_len s w' hsz h36 h45 h38 h32))
      clear h32 h36 h38 h45 h
      go_enter Tryd.func3, Tryd.ntmps3
      go_wp2_with (go_at_call 6; refine HR.out.mono ?_)
      rintro e w2 ⟨rfl, hb2⟩
      go_wp2_with (go_at_call 7; refine (HV.out _).mono ?_)
      rintro e w3 ⟨rfl, hb3⟩
      have hw3 := hb2.trans (hb3.mono hb2.size)
      clear hb2 hb3 HR HV
      go_wp2_with (refine wp_make_zero_w rfl rfl Tryd.underlying22 info5 rfl (n := 16) rfl rfl (by decide) (by decide) ?_)
      intro w4 b4 g4 s4
      clear s4
      have hw4 := hw3.trans ((below_grown g4).mono hw3.size)
      have r4 := (show Blk w4 w3.heap.size (bvs (List.replicate 16 0)) 5 from b4).rd (by decide)
      go_wp2_with (go_at_call 8; refine (specText_ok _ _ _ _ r4 rfl).mono ?_)
      rintro e w5 ⟨rfl, hb5⟩
      have hw5 := hw4.trans (hb5.mono hw4.size)
      go_wp2_with (go_at_call 7; refine (valid_zero _ (XTab.kept HT.out hw5)).mono ?_)
      rintro e w6 ⟨rfl, hb6⟩
      have hw6 := hw5.trans (hb6.mono hw5.size)
      go_wp2
      go_ret
      exact ⟨rfl, hw6⟩
end Go.Proofs.YtdjppileeeljnaaDoor
