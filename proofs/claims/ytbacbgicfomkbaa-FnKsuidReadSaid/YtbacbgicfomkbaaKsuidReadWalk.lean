/- The law FnKsuidRead returns true, and turns nothing that was there. -/
import Derived.Test.YtbacbgicfomkbaaReadK
import Derived.Test.YtbacbgicfomkbaaStr
namespace Go.Proofs.Ytbacbgicfomkbaa
open Go.RowKit
set_option linter.unusedVariables false
set_option linter.unusedSimpArgs false

theorem str_of (s : ByteArray) : Value.string s = str s.data.toList := by unfold str; simp
set_option maxRecDepth 100000 in
theorem ksuidRead_walk (a0 : Option Addr) (x0 : List UInt8) (c0 : Nat) (m : ByteArray) (w : World) (h0 : Rd w a0 x0) (_hc : x0.length ≤ c0) (_hc' : c0 ≤ 9223372036854775807) (_hm : m.size ≤ maxLen) :
    Calls Try.prog 11 #[.slice a0 x0.length c0, .string m] w fun e w' => e = .returned (.bool true) ∧ Below w.heap.size w w' := by
  have hb := Below.refl w.heap.size w
  have hl := h0.1
  clear _hc _hc' _hm
  by_cases hbig : 2147483647 < x0.length
  · go_enter Try.func11, Try.ntmps11
    go_wp2
    go_ret
    exact ⟨rfl, hb⟩
  by_cases hbig2 : 2147483647 < m.size
  · go_enter Try.func11, Try.ntmps11
    go_wp2
    go_ret
    exact ⟨rfl, hb⟩
  by_cases hlen : x0.length = 20
  · by_cases h1 : m.size < 1
    · rw [hlen]
      go_enter Try.func11, Try.ntmps11
      go_wp2
      go_ret
      exact ⟨rfl, hb⟩
    · by_cases h40 : 40 < m.size
      · rw [hlen]
        go_enter Try.func11, Try.ntmps11
        go_wp2
        go_ret
        exact ⟨rfl, hb⟩
      · have L := Lib.hid hlen
        rw [hlen]
        obtain ⟨n, hn⟩ : ∃ n, m.size = n := ⟨_, rfl⟩
        have hn1 : 1 ≤ n := by omega
        have hn40 : n ≤ 40 := by omega
        obtain ⟨T, hT⟩ : ∃ T : ByteArray, T = ⟨(writ d62 27 (num x0)).toArray⟩ := ⟨_, rfl⟩
        have hTs : T.size = 27 := by rw [hT]; show (writ d62 27 (num x0)).toArray.size = 27; simp [writ_length]
        have HW : Hid (∀ w', Rd w' a0 x0 → Calls Try.prog 24 #[.slice a0 20 c0, .string ⟨d62.toArray⟩, .int .i64 27] w' fun e w'' => e = .returned (.string T) ∧ Below w'.heap.size w' w'') := Lib.hid (fun w' r => by
          have := write_ok a0 x0 c0 d62 27 w' r (by rw [hlen]; decide) (by rw [hlen]; decide) (by decide) (by decide) (by decide)
          rw [hlen] at this
          rw [hT]
          exact this)
        have HR : Hid (∀ w', Calls Try.prog 33 #[.string T] w' fun e w'' => ∃ g, e = .returned (.tuple #[.slice (some ⟨g, 0, none⟩) 20 20, .bool true]) ∧ Blk w'' g (bvs x0) 59 ∧ Below w'.heap.size w' w'') := Lib.hid (fun w' => by rw [hT]; exact ksuidRead_ok x0 hlen w')
        have HL : Hid (∀ w', Calls Try.prog 33 #[.string (T ++ m)] w' fun e w'' => e = .returned (.tuple #[.slice none 0 0, .bool false]) ∧ Below w'.heap.size w' w'') := Lib.hid (fun w' => by
          rw [str_of]
          exact ksuidRead_bad _ (by simp [ByteArray.data_append]; omega) w')
        have HS : Hid (∀ w' j, j < 27 → Calls Try.prog 33 #[.string (T.extract 0 j)] w' fun e w'' => e = .returned (.tuple #[.slice none 0 0, .bool false]) ∧ Below w'.heap.size w' w'') := Lib.hid (fun w' j hj => by
          rw [str_of]
          exact ksuidRead_bad _ (by simp [ByteArray.data_extract]; omega) w')
        have hadd : ∀ (P : Program) t w', (binOp .add t (.string T) (.string m)).run P w' = .ok (.string (T ++ m)) w' := by
          intro P t w'
          rw [binOp_string_add]
          exact run_string_add (P := P) (w := w') T m (by omega) (by omega)
        obtain ⟨j, hj⟩ : ∃ j : Nat, (27 - if (n : Int) < 27 then (n : Int) else 27).toNat = j := ⟨_, rfl⟩
        have hj27 : j < 27 := by rw [← hj]; split <;> omega
        have HJ := Lib.hid hj
        clear hj
        clear hT hl hlen hbig hbig2 h1 h40
        go_enter Try.func11, Try.ntmps11
        go_wp2_with (go_at_call 24; refine (HW.out _ h0).mono ?_)
        rintro e w2 ⟨rfl, hb2⟩
        go_wp2_with (go_at_call 33; refine (HR.out _).mono ?_)
        rintro e w3 ⟨g3, rfl, b3, hb3⟩
        have hw3 := hb2.trans (hb3.mono hb2.size)
        go_wp2_with (go_at_call 33; refine (HL.out _).mono ?_)
        rintro e w4 ⟨rfl, hb4⟩
        have hw4 := hw3.trans (hb4.mono hw3.size)
        have b4 := b3.kept hb4
        go_wp2_with (go_at_call 33; rw [HJ.out]; refine (HS.out _ j hj27).mono ?_; rintro e w5 ⟨rfl, hb5⟩)
        all_goals
          have hw5 := hw4.trans (hb5.mono hw4.size)
          have b5 := b4.kept hb5
          have r5 := b5.rd (by rw [L.out]; decide)
          have r0 := h0.kept hw5
          go_wp2_with (go_at_call 15; (with_reducible refine (same_eq r5 r0 L.out L.out).mono ?_); rintro e w7 ⟨rfl, n7, rfl⟩)
          go_ret
          exact ⟨rfl, hw5.os, hw5.tape, hw5.output, hw5.size, hw5.block⟩
  · have hne : ((x0.length : Int) != 20) = true := by rw [bne_iff_ne]; omega
    go_enter Try.func11, Try.ntmps11
    go_wp2
    go_ret
    exact ⟨rfl, hb⟩
end Go.Proofs.Ytbacbgicfomkbaa
