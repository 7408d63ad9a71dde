/- The law FnUlidStrict returns true, and turns nothing that was there. -/
import Derived.Test.YtcojcohipmoopaaDoorSRead
import Derived.Test.YtcojcohipmoopaaDoorUlidReadWalk
namespace Go.Proofs.YtcojcohipmoopaaDoor
open Go.RowKit
set_option linter.unusedVariables false
set_option linter.unusedSimpArgs false

set_option maxRecDepth 100000 in
theorem ulidStrict_walk (s : ByteArray) (w : World) (hD : DTab w) (_hs : s.size ≤ maxLen) :
    Calls Tryd.prog 4 #[.string s] w fun e w' => e = .returned (.bool true) ∧ Below w.heap.size w w' := by
  have hb := Below.refl w.heap.size w
  have HD := Lib.hid hD
  clear _hs hD
  by_cases hbig : 2147483647 < s.size
  · go_enter Tryd.func4, Tryd.ntmps4
    go_wp2
    go_ret
    exact ⟨rfl, hb⟩
  by_cases h26 : s.size = 26
  · obtain ⟨T, hT⟩ : ∃ T, s.data.toList = T := ⟨_, rfl⟩
    have hl : T.length = 26 := by rw [← hT, Array.length_toList]; exact h26
    have hs : Value.string s = str T := by rw [str_of, hT]
    have HU : Hid (∀ w', Calls Tryd.prog 10 #[.string s] w' fun e w'' => e = .returned (str (T.map upB)) ∧ Below w'.heap.size w' w'') := Lib.hid (fun w' => by rw [hs]; exact upper_ok T w' (by rw [hl]; decide))
    have LT := Lib.hid hl
    cases hr : refuses T true with
    | false =>
      have HR : Hid (∀ w', Calls Tryd.prog 9 #[str (T.map upB), .string ⟨dg32.toArray⟩, .int .i64 16] w' fun e w'' => ∃ g, e = .returned (.tuple #[.slice (some ⟨g, 0, none⟩) 16 16, .bool true]) ∧ Blk w'' g (bvs (be 16 (hn T 26))) 5 ∧ Below w'.heap.size w' w'') := Lib.hid (fun w' => (sread_ok T hl w').mono fun e w'' ⟨h1, _, h3⟩ => by
        obtain ⟨g, h4, h5⟩ := h1 hr
        exact ⟨g, h4, h5, h3⟩)
      have HX : Hid (∀ w', DTab w' → Calls Tryd.prog 6 #[.string s, .bool true] w' fun e w'' => ∃ g, e = .returned (.tuple #[.slice (some ⟨g, 0, none⟩) 16 16, .bool true]) ∧ Blk w'' g (bvs (be 16 (hn T 26))) 33 ∧ Below w'.heap.size w' w'') := Lib.hid (fun w' hD' => by
        rw [hs, ← uB_be T (takes_ok hr).1]
        exact uread_good T hl true hr w' hD')
      have LB := Lib.hid (be_length 16 (hn T 26))
      clear hr hT hl hs
      generalize be 16 (hn T 26) = X at *
      go_enter Tryd.func4, Tryd.ntmps4
      go_wp2_with (go_at_call 10; refine (HU.out _).mono ?_)
      rintro e w2 ⟨rfl, hb2⟩
      go_wp2_with (go_at_call 9; refine (HR.out _).mono ?_)
      rintro e w3 ⟨g3, rfl, b3, hb3⟩
      have hw3 := hb2.trans (hb3.mono hb2.size)
      clear hb2 hb3
      go_wp2_with (go_at_call 6; refine (HX.out _ (HD.out.kept hw3)).mono ?_)
      rintro e w4 ⟨g4, rfl, c4, hb4⟩
      have hw4 := hw3.trans (hb4.mono hw3.size)
      have b4 := b3.kept hb4
      have r4 := b4.rd (by rw [LB.out]; decide)
      have q4 := c4.rd (by rw [LB.out]; decide)
      clear hb4 hw3 b3
      go_wp2_with (first | (go_at_call 8; (with_reducible refine (same_eq q4 r4 LB.out LB.out).mono ?_); rintro e w5 ⟨rfl, n5, rfl⟩) | (go_at_call 11; refine (known_ok _).mono ?_))
      rintro e w6 ⟨rfl, hb6⟩
      go_wp2
      go_ret
      have hw5 : Below w.heap.size w (w4.drewN n5) := ⟨hw4.os, hw4.tape, hw4.output, hw4.size, hw4.block⟩
      exact ⟨rfl, hw5.trans (hb6.mono hw5.size)⟩
    | true =>
      have HR : Hid (∀ w', Calls Tryd.prog 9 #[str (T.map upB), .string ⟨dg32.toArray⟩, .int .i64 16] w' fun e w'' => e = .returned (.tuple #[.slice none 0 0, .bool false]) ∧ Below w'.heap.size w' w'') := Lib.hid (fun w' => (sread_ok T hl w').mono fun e w'' ⟨_, h2, h3⟩ => ⟨h2 hr, h3⟩)
      have HX : Hid (∀ w', DTab w' → Calls Tryd.prog 6 #[.string s, .bool true] w' fun e w'' => e = .returned (.tuple #[.slice none 0 0, .bool false]) ∧ Below w'.heap.size w' w'') := Lib.hid (fun w' hD' => by
        rw [hs]
        exact uread_bad T hl true hr w' hD')
      clear hr hT hl hs
      go_enter Tryd.func4, Tryd.ntmps4
      go_wp2_with (go_at_call 10; refine (HU.out _).mono ?_)
      rintro e w2 ⟨rfl, hb2⟩
      go_wp2_with (go_at_call 9; refine (HR.out _).mono ?_)
      rintro e w3 ⟨rfl, hb3⟩
      have hw3 := hb2.trans (hb3.mono hb2.size)
      clear hb2 hb3
      go_wp2_with (go_at_call 6; refine (HX.out _ (HD.out.kept hw3)).mono ?_)
      rintro e w4 ⟨rfl, hb4⟩
      have hw4 := hw3.trans (hb4.mono hw3.size)
      clear hb4 hw3
      go_wp2_with (go_at_call 11; refine (known_ok _).mono ?_)
      rintro e w6 ⟨rfl, hb6⟩
      go_wp2
      go_ret
      exact ⟨rfl, hw4.trans (hb6.mono hw4.size)⟩
  · have hne : ((s.size : Int) != 26) = true := by rw [bne_iff_ne]; omega
    go_enter Tryd.func4, Tryd.ntmps4
    go_wp2
    go_ret
    exact ⟨rfl, hb⟩
end Go.Proofs.YtcojcohipmoopaaDoor
