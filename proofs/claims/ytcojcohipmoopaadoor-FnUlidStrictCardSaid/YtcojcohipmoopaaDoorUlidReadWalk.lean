/- The law FnUlidRead returns true, and turns nothing that was there. -/
import Derived.Test.YtcojcohipmoopaaDoorULaw
import Derived.Test.YtcojcohipmoopaaDoorArgs
namespace Go.Proofs.YtcojcohipmoopaaDoor
open Go.RowKit
set_option linter.unusedVariables false
set_option linter.unusedSimpArgs false

theorem uread_good (T : List UInt8) (hT : T.length = 26) (strict : Bool) (hr : refuses T strict = false) (w : World) (hD : DTab w) :
    Calls Tryd.prog 6 #[str T, .bool strict] w fun e w' => ∃ g, e = .returned (.tuple #[.slice (some ⟨g, 0, none⟩) 16 16, .bool true]) ∧ Blk w' g (bvs (uB T)) 33 ∧ Below w.heap.size w w' := by
  cases strict with
  | true => exact uread_strict_ok T hT w hD hr
  | false => exact uread_loose_ok T hT w hD hr
theorem uread_bad (T : List UInt8) (hT : T.length = 26) (strict : Bool) (hr : refuses T strict = true) (w : World) (hD : DTab w) :
    Calls Tryd.prog 6 #[str T, .bool strict] w fun e w' => e = .returned (.tuple #[.slice none 0 0, .bool false]) ∧ Below w.heap.size w w' := by
  cases strict with
  | true => exact uread_strict_bad T hT w hD hr
  | false => exact uread_loose_bad T hT w hD hr
theorem uread_len (T : List UInt8) (hT : T.length ≠ 26) (strict : Bool) (w : World) :
    Calls Tryd.prog 6 #[str T, .bool strict] w fun e w' => e = .returned (.tuple #[.slice none 0 0, .bool false]) ∧ Below w.heap.size w w' := by
  cases strict with
  | true => exact uread_strict_len T hT w
  | false => exact uread_loose_len T hT w
theorem str_of (s : ByteArray) : Value.string s = str s.data.toList := by unfold str; simp
set_option maxRecDepth 100000 in
theorem ulidRead_walk (a0 : Option Addr) (x0 : List UInt8) (c0 : Nat) (strict : Bool) (m : ByteArray) (w : World) (hD : DTab w) (h0 : Rd w a0 x0) (_hc : x0.length ≤ c0) (_hc' : c0 ≤ 9223372036854775807) (_hm : m.size ≤ maxLen) :
    Calls Tryd.prog 3 #[.slice a0 x0.length c0, .bool strict, .string m] w fun e w' => e = .returned (.bool true) ∧ Below w.heap.size w w' := by
  have hb := Below.refl w.heap.size w
  have hl := h0.1
  have HD := Lib.hid hD
  clear _hc _hc' _hm hD
  by_cases hbig : 2147483647 < x0.length
  · go_enter Tryd.func3, Tryd.ntmps3
    go_wp2
    go_ret
    exact ⟨rfl, hb⟩
  by_cases hbig2 : 2147483647 < m.size
  · go_enter Tryd.func3, Tryd.ntmps3
    go_wp2
    go_ret
    exact ⟨rfl, hb⟩
  by_cases hlen : x0.length = 16
  · by_cases h1 : m.size < 1
    · rw [hlen]
      go_enter Tryd.func3, Tryd.ntmps3
      go_wp2
      go_ret
      exact ⟨rfl, hb⟩
    · by_cases h40 : 40 < m.size
      · rw [hlen]
        go_enter Tryd.func3, Tryd.ntmps3
        go_wp2
        go_ret
        exact ⟨rfl, hb⟩
      · have L := Lib.hid hlen
        obtain ⟨u1, u2⟩ := text_upper x0 hlen strict
        obtain ⟨v1, v2⟩ := text_lower x0 hlen strict
        have hml : ((writ dg32 26 (num x0)).map loB).length = 26 := by rw [List.length_map, writ_length]
        rw [hlen]
        obtain ⟨n, hn⟩ : ∃ n, m.size = n := ⟨_, rfl⟩
        have hn1 : 1 ≤ n := by omega
        have hn40 : n ≤ 40 := by omega
        obtain ⟨T, hT⟩ : ∃ T : ByteArray, T = ⟨(writ dg32 26 (num x0)).toArray⟩ := ⟨_, rfl⟩
        obtain ⟨T2, hT2⟩ : ∃ T : ByteArray, T = ⟨((writ dg32 26 (num x0)).map loB).toArray⟩ := ⟨_, rfl⟩
        have hTs : T.size = 26 := by rw [hT]; show (writ dg32 26 (num x0)).toArray.size = 26; simp [writ_length]
        have HW : Hid (∀ w', Rd w' a0 x0 → Calls Tryd.prog 5 #[.slice a0 16 c0, .string ⟨dg32.toArray⟩, .int .i64 26] w' fun e w'' => e = .returned (.string T) ∧ Below w'.heap.size w' w'') := Lib.hid (fun w' r => by
          have := write_ok a0 x0 c0 dg32 26 w' r (by rw [hlen]; decide) (by rw [hlen]; decide) (by decide) (by decide) (by decide)
          rw [hlen] at this
          rw [hT]
          exact this)
        have HLo : Hid (∀ w', Calls Tryd.prog 7 #[.string T] w' fun e w'' => e = .returned (.string T2) ∧ Below w'.heap.size w' w'') := Lib.hid (fun w' => by rw [hT, hT2]; exact lower_ok _ w' (by rw [writ_length]; decide))
        have HR : Hid (∀ w', DTab w' → Calls Tryd.prog 6 #[.string T, .bool strict] w' fun e w'' => ∃ g, e = .returned (.tuple #[.slice (some ⟨g, 0, none⟩) 16 16, .bool true]) ∧ Blk w'' g (bvs x0) 33 ∧ Below w'.heap.size w' w'') := Lib.hid (fun w' hD' => by
          have := uread_good _ (writ_length dg32 26 (num x0)) strict u1 w' hD'
          rw [u2] at this
          rw [hT]; exact this)
        have HR2 : Hid (∀ w', DTab w' → Calls Tryd.prog 6 #[.string T2, .bool strict] w' fun e w'' => ∃ g, e = .returned (.tuple #[.slice (some ⟨g, 0, none⟩) 16 16, .bool true]) ∧ Blk w'' g (bvs x0) 33 ∧ Below w'.heap.size w' w'') := Lib.hid (fun w' hD' => by
          have := uread_good _ hml strict v1 w' hD'
          rw [v2] at this
          rw [hT2]; exact this)
        have HL : Hid (∀ w', Calls Tryd.prog 6 #[.string (T ++ m), .bool strict] w' fun e w'' => e = .returned (.tuple #[.slice none 0 0, .bool false]) ∧ Below w'.heap.size w' w'') := Lib.hid (fun w' => by
          rw [str_of]
          exact uread_len _ (by simp [ByteArray.data_append]; omega) strict w')
        have HS : Hid (∀ w' j, j < 26 → Calls Tryd.prog 6 #[.string (T.extract 0 j), .bool strict] w' fun e w'' => e = .returned (.tuple #[.slice none 0 0, .bool false]) ∧ Below w'.heap.size w' w'') := Lib.hid (fun w' j hj => by
          rw [str_of]
          exact uread_len _ (by simp [ByteArray.data_extract]; omega) strict w')
        have hadd : ∀ (P : Program) t w', (binOp .add t (.string T) (.string m)).run P w' = .ok (.string (T ++ m)) w' := by
          intro P t w'
          rw [binOp_string_add]
          exact run_string_add (P := P) (w := w') T m (by omega) (by omega)
        obtain ⟨j, hj⟩ : ∃ j : Nat, (26 - if (n : Int) < 26 then (n : Int) else 26).toNat = j := ⟨_, rfl⟩
        have hj27 : j < 26 := by rw [← hj]; split <;> omega
        have HJ := Lib.hid hj
        clear hj
        clear hT hT2 hl hlen hbig hbig2 h1 h40 u1 u2 v1 v2 hml
        go_enter Tryd.func3, Tryd.ntmps3
        go_wp2_with (go_at_call 5; refine (HW.out _ h0).mono ?_)
        rintro e w2 ⟨rfl, hb2⟩
        go_wp2_with (go_at_call 6; refine (HR.out _ (HD.out.kept hb2)).mono ?_)
        rintro e w3 ⟨g3, rfl, b3, hb3⟩
        have hw3 := hb2.trans (hb3.mono hb2.size)
        go_wp2_with (go_at_call 7; refine (HLo.out _).mono ?_)
        rintro e w31 ⟨rfl, hb31⟩
        have hw31 := hw3.trans (hb31.mono hw3.size)
        have b31 := b3.kept hb31
        clear hb2 hb3 hb31 b3 hw3
        go_wp2_with (go_at_call 6; refine (HR2.out _ (HD.out.kept hw31)).mono ?_)
        rintro e w32 ⟨g4, rfl, c32, hb32⟩
        have hw32 := hw31.trans (hb32.mono hw31.size)
        have b32 := b31.kept hb32
        clear hb32 b31 hw31
        go_wp2_with (go_at_call 6; refine (HL.out _).mono ?_)
        rintro e w4 ⟨rfl, hb4⟩
        have hw4 := hw32.trans (hb4.mono hw32.size)
        have b4 := b32.kept hb4
        have c4 := c32.kept hb4
        clear hb4 b32 c32 hw32
        go_wp2_with (go_at_call 6; rw [HJ.out]; refine (HS.out _ j hj27).mono ?_; rintro e w5 ⟨rfl, hb5⟩)
        all_goals
          have hw5 := hw4.trans (hb5.mono hw4.size)
          have b5 := b4.kept hb5
          have c5 := c4.kept hb5
          have r5 := b5.rd (by rw [L.out]; decide)
          have s5 := c5.rd (by rw [L.out]; decide)
          have r0 := h0.kept hw5
          go_wp2_with (go_at_call 8; first | ((with_reducible refine (same_eq r5 r0 L.out L.out).mono ?_); rintro e w7 ⟨rfl, n7, rfl⟩) | ((with_reducible refine (same_eq (s5.drew n7) (r0.drew n7) L.out L.out).mono ?_); rintro e w8 ⟨rfl, n8, rfl⟩))
          go_ret
          exact ⟨rfl, hw5.os, hw5.tape, hw5.output, hw5.size, hw5.block⟩
  · have hne : ((x0.length : Int) != 16) = true := by rw [bne_iff_ne]; omega
    go_enter Tryd.func3, Tryd.ntmps3
    go_wp2
    go_ret
    exact ⟨rfl, hb⟩
end Go.Proofs.YtcojcohipmoopaaDoor
