/- The law FnUuidRead returns true, and turns nothing that was there. -/
import Derived.Test.YtdjppileeeljnaaDoorUuidRW
import Derived.Test.YtdjppileeeljnaaDoorUpLow
namespace Go.Proofs.YtdjppileeeljnaaDoor
open Go.RowKit
set_option linter.unusedVariables false
set_option linter.unusedSimpArgs false

/-- A text that is read as x, and is valid. -/
def Reads (t x : List UInt8) : Prop := ∀ w, XTab w → Calls Tryd.prog 6 #[str t] w (fun e w' => ∃ r, e = .returned (.tuple #[r, .bool true]) ∧ OwnB w' w.heap.size 5 r x ∧ Below w.heap.size w w') ∧
  Calls Tryd.prog 7 #[str t] w fun e w' => e = .returned (.bool true) ∧ Below w.heap.size w w'
theorem std_dash {p : List UInt8} (h : stdOk p = true) : dashOk p = true := by
  unfold stdOk at h
  rw [Bool.and_eq_true] at h
  exact h.1
theorem reads36 (t x : List UInt8) (ht : t.length = 36) (hx : x.length = 16) (h : stdOk t = true ∧ stdB t = x) : Reads t x := fun w hT =>
  ⟨uuidRead_good _ x hx w ((parse36 t ht w hT).mono fun _ _ h' => ⟨by rw [h'.1.1 h.1, h.2], h'.2⟩), uuidValid_good _ w ((val36 t ht w hT).mono fun _ _ h' => ⟨h'.1.1 h.1, h'.2⟩)⟩
theorem reads45 (t x : List UInt8) (ht : t.length = 36) (hx : x.length = 16) (h : stdOk t = true ∧ stdB t = x) : Reads (urnL ++ t) x := fun w hT =>
  ⟨uuidRead_good _ x hx w ((parse45 t ht w hT (std_dash h.1)).mono fun _ _ h' => ⟨by rw [h'.1.1 h.1, h.2], h'.2⟩), uuidValid_good _ w ((val45 t ht w hT (std_dash h.1)).mono fun _ _ h' => ⟨h'.1.1 h.1, h'.2⟩)⟩
theorem reads38 (t x : List UInt8) (ht : t.length = 36) (hx : x.length = 16) (h : stdOk t = true ∧ stdB t = x) : Reads (123 :: t ++ [125]) x := fun w hT => by
  obtain ⟨h1, h2⟩ := std_app t [125] ht
  refine ⟨uuidRead_good _ x hx w ((parse38_dash (t ++ [125]) (by simp [ht]) 123 w hT (std_dash (h1.trans h.1))).mono fun _ _ h' => ⟨by rw [h'.1.1 (h1.trans h.1), h2, h.2], h'.2⟩), uuidValid_good _ w ((val38 t ht w hT (std_dash h.1)).mono fun _ _ h' => ⟨h'.1.1 h.1, h'.2⟩)⟩
theorem reads32 (t x : List UInt8) (ht : t.length = 32) (hx : x.length = 16) (h : rawOk t = true ∧ rawB t = x) : Reads t x := fun w hT =>
  ⟨uuidRead_good _ x hx w ((parse32 t ht w hT h.1).mono fun _ _ h' => ⟨by rw [h'.1, h.2], h'.2⟩), uuidValid_good _ w (val32 t ht w hT h.1)⟩

set_option maxRecDepth 100000 in
theorem uuidRead_walk (a0 : Option Addr) (x0 : List UInt8) (c0 : Nat) (w : World) (hT : XTab w) (h0 : Rd w a0 x0) (_hc : x0.length ≤ c0) (_hc' : c0 ≤ 9223372036854775807) :
    Calls Tryd.prog 4 #[.slice a0 x0.length c0] w fun e w' => e = .returned (.bool true) ∧ Below w.heap.size w w' := by
  have hb := Below.refl w.heap.size w
  have hl := h0.1
  have HT := Lib.hid hT
  clear _hc _hc' hT
  by_cases hbig : 2147483647 < x0.length
  · go_enter Tryd.func4, Tryd.ntmps4
    go_wp2
    go_ret
    exact ⟨rfl, hb⟩
  by_cases hlen : x0.length = 16
  · have L := Lib.hid hlen
    rw [hlen]
    obtain ⟨t1, ht1⟩ : ∃ t, utext x0 = t := ⟨_, rfl⟩
    have hl1 : t1.length = 36 := by rw [← ht1]; exact utext_len x0 hlen
    have hr1 : Reads t1 x0 := reads36 _ _ hl1 hlen (by rw [← ht1]; exact std_text hlen)
    have hr2 : Reads (t1.map upB) x0 := reads36 _ _ (by rw [List.length_map]; exact hl1) hlen (by rw [← ht1]; exact std_upper hlen)
    have hr3 : Reads (urnL ++ t1) x0 := reads45 _ _ hl1 hlen (by rw [← ht1]; exact std_text hlen)
    have hr4 : Reads (123 :: t1 ++ [125]) x0 := reads38 _ _ hl1 hlen (by rw [← ht1]; exact std_text hlen)
    have hr5 : Reads (hexL x0) x0 := reads32 _ _ (by rw [hexL_length, hlen]) hlen (raw_text hlen)
    obtain ⟨ts, hts⟩ : ∃ ts : List (List UInt8), ts = [t1, t1.map upB, urnL ++ t1, 123 :: t1 ++ [125], hexL x0] := ⟨_, rfl⟩
    have hall : Hid (∀ k, k < 5 → Reads (ts.getD k []) x0) := Lib.hid (by
      rw [hts]
      intro k hk
      have : k = 0 ∨ k = 1 ∨ k = 2 ∨ k = 3 ∨ k = 4 := by omega
      rcases this with rfl | rfl | rfl | rfl | rfl
      · exact hr1
      · exact hr2
      · exact hr3
      · exact hr4
      · exact hr5)
    have hcells : Hid ([Value.string ⟨t1.toArray⟩, .string ⟨(t1.map upB).toArray⟩, .string ⟨(urnL ++ t1).toArray⟩, .string ⟨(123 :: t1 ++ [125]).toArray⟩, .string ⟨(hexL x0).toArray⟩] = ts.map str) := Lib.hid (by rw [hts]; rfl)
    have htl : Hid (ts.length = 5) := Lib.hid (by rw [hts]; rfl)
    have HU : Hid (∀ w', Rd w' a0 x0 → Calls Tryd.prog 8 #[.slice a0 16 c0] w' fun e w'' => e = .returned (str t1) ∧ Below w'.heap.size w' w'') := Lib.hid (fun w' r => by rw [← ht1]; exact specText_ok a0 x0 c0 w' r hlen)
    have HP : Hid (∀ w', Calls Tryd.prog 9 #[str t1] w' fun e w'' => e = .returned (str (t1.map upB)) ∧ Below w'.heap.size w' w'') := Lib.hid (fun w' => upper_ok t1 w' (by rw [hl1]; decide))
    have HW : Hid (∀ w', Rd w' a0 x0 → Calls Tryd.prog 10 #[.slice a0 16 c0, .string ⟨d16.toArray⟩, .int .i64 32] w' fun e w'' => e = .returned (str (hexL x0)) ∧ Below w'.heap.size w' w'') := Lib.hid (fun w' r => by
      have hw := write_ok a0 x0 c0 d16 32 w' r (by omega) (by omega) (by decide) (by decide) (by decide)
      have hh := writ_hex x0
      rw [hlen] at hw hh
      rw [show 2 * 16 = 32 from rfl] at hh
      rw [hh] at hw
      exact hw)
    have HL1 := Lib.hid hl1
    clear hr1 hr2 hr3 hr4 hr5 hts ht1 hl1 hl hlen hbig
    go_enter Tryd.func4, Tryd.ntmps4
    go_wp2_with (go_at_call 8; refine (HU.out _ h0).mono ?_)
    rintro e w2 ⟨rfl, hb2⟩
    go_wp2_with (go_at_call 9; refine (HP.out _).mono ?_)
    rintro e w3 ⟨rfl, hb3⟩
    have hw3 := hb2.trans (hb3.mono hb2.size)
    have r3 := h0.kept hw3
    clear hb2 hb3
    go_wp2_with (first | (refine wp_val_at (d := 20) rfl (v := str (urnL ++ t1)) rfl (still_str_add (S := fun _ => True) (x := .const (.string ⟨#[117, 114, 110, 58, 117, 117, 105, 100, 58]⟩)) (p := urnL) (q := t1) rfl (by kernel_rfl) rfl (by rw [HL1.out]; decide) _ trivial) ?_) | (refine wp_val_at (d := 22) rfl (v := str (123 :: t1)) rfl (still_str_add (S := fun _ => True) (x := .const (.string ⟨#[123]⟩)) (p := [123]) (q := t1) rfl (by kernel_rfl) rfl (by rw [HL1.out]; decide) _ trivial) ?_) | (refine wp_val_at (d := 23) rfl (v := str (123 :: t1 ++ [125])) rfl (still_str_add (S := fun _ => True) (y := .const (.string ⟨#[125]⟩)) (p := 123 :: t1) (q := [125]) rfl rfl (by kernel_rfl) (by simp [HL1.out]) _ trivial) ?_) | (go_at_call 10; refine (HW.out _ r3).mono ?_))
    rintro e w4 ⟨rfl, hb4⟩
    have hw4 := hw3.trans (hb4.mono hw3.size)
    clear hw3 hb4 r3
    unfold str
    go_wp2_with (refine wp_buildSlice rfl rfl rfl (cs := [Value.string ⟨t1.toArray⟩, .string ⟨(t1.map upB).toArray⟩, .string ⟨(urnL ++ t1).toArray⟩, .string ⟨(123 :: t1 ++ [125]).toArray⟩, .string ⟨(hexL x0).toArray⟩]) (e := 9) (fun w => by kernel_rfl) ?_)
    intro w5 b5 g5 s5
    clear s5
    have b5' : Blk w5 w4.heap.size (ts.map str) 9 := by rw [← hcells.out]; exact b5
    clear b5
    have b5 := b5'
    clear b5'
    have hw5 := hw4.trans ((below_grown g5).mono hw4.size)
    have hgg := hw4.size
    clear hw4 g5
    generalize w4.heap.size = gg at *
    go_wp2
    go_loopw [28] (fun i wr => ∃ k : Nat, k ≤ 5 ∧ i = .int .i64 k ∧ Blk wr gg (ts.map str) 9 ∧ Below w.heap.size w wr) (fun i _ => 5 - (intOf i).toNat)
    case atStart => exact ⟨0, Nat.zero_le _, rfl, b5, hw5⟩
    case round =>
      obtain ⟨k, hk, rfl, hB, hw⟩ := hrel
      by_cases hlt : k < 5
      · obtain ⟨t, ht⟩ : ∃ t, ts.getD k [] = t := ⟨_, rfl⟩
        have hc : wr.cell? ⟨gg, k, none⟩ = some (str t) := by
          rw [hB.cell, List.getElem?_map, ← ht]
          have : k < ts.length := by rw [htl.out]; exact hlt
          simp [this]
        have hrd := hall.out k hlt
        rw [ht] at hrd
        have HR := Lib.hid hrd
        clear hrd ht
        unfold str at hc
        go_wp2_with (go_at_call 6; refine (HR.out _ (XTab.kept HT.out hw)).1.mono ?_; rintro e w6 ⟨r6, rfl, o6, hb6⟩)
        have hw6 := hw.trans (hb6.mono hw.size)
        obtain ⟨a6, cap6, rfl, r6', hg6⟩ := o6.rd
        rw [L.out]
        have r0 := h0.kept hw6
        have B6 := hB.kept hb6
        go_wp2_with (go_at_call 11; (with_reducible refine (same_eq r6' r0 L.out L.out).mono ?_); rintro e w7 ⟨rfl, n7, rfl⟩)
        have hw7 : Below w.heap.size w (w6.drewN n7) := ⟨hw6.os, hw6.tape, hw6.output, hw6.size, hw6.block⟩
        have B7 : Blk (w6.drewN n7) gg (ts.map str) 9 := B6
        go_wp2_with (go_at_call 7; refine (HR.out _ (XTab.kept HT.out hw7)).2.mono ?_; rintro e w8 ⟨rfl, hb8⟩)
        have hw8 := hw7.trans (hb8.mono hw7.size)
        have B8 := B7.kept hb8
        go_wp2
        go_roundw
        case rel => exact ⟨k + 1, by omega, by go_num, B8, hw8⟩
        case measure => simp [intOf]; omega
      · obtain rfl : k = 5 := by omega
        go_wp2
        go_ret
        exact ⟨rfl, hw⟩
  · have hne : ((x0.length : Int) != 16) = true := by rw [bne_iff_ne]; omega
    go_enter Tryd.func4, Tryd.ntmps4
    go_wp2
    go_ret
    exact ⟨rfl, hb⟩
end Go.Proofs.YtdjppileeeljnaaDoor
