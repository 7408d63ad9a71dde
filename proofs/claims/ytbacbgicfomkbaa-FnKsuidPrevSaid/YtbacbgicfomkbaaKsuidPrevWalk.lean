/- The law FnKsuidPrev returns true, and turns nothing that was there. -/
import Derived.Test.YtbacbgicfomkbaaKsPrev
namespace Go.Proofs.Ytbacbgicfomkbaa
open Go.RowKit
set_option linter.unusedVariables false
/-- The bytes of the KSUID that the code makes. -/
theorem prevB_ok (x : List UInt8) (hx : x.length = 20) (hn : 0 < num x) (w : World) :
    Calls Try.prog 48 #[.agg (bvs x).toArray] w fun e w' => e = .returned (.agg (bvs (be 20 (num x - 1))).toArray) ∧ Below w.heap.size w w' := by
  obtain ⟨l, hl⟩ : ∃ l, (num (x.drop 12) + 18446744073709551616 - 1) % 18446744073709551616 = l := ⟨_, rfl⟩
  obtain ⟨h, hh⟩ : ∃ h, (num ((x.drop 4).take 8) + 18446744073709551616 - 0 - (if num (x.drop 12) < 1 then 1 else 0)) % 18446744073709551616 = h := ⟨_, rfl⟩
  have hc := kprev_ok x w hx _ _ _ l h _ rfl rfl rfl hl hh rfl
  have e := prev_law x hx _ _ _ l h _ rfl rfl rfl (by omega) hh rfl hn
  rw [e] at hc
  exact hc
set_option maxRecDepth 100000 in
theorem ksuidPrev_ok (a1 : Option Addr) (x : List UInt8) (c1 : Nat) (w : World) (h1 : Rd w a1 x) (hx : x.length = 20) (hn : 0 < num x) :
    Calls Try.prog 32 #[.slice a1 20 c1] w fun e w' => ∃ g, e = .returned (.tuple #[.slice (some ⟨g, 0, none⟩) 20 20, .bool true]) ∧ Blk w' g (bvs (be 20 (num x - 1))) 59 ∧ Below w.heap.size w w' := by
  have L := Lib.hid hx
  have HN := Lib.hid hn
  have L20 := Lib.hid (show (bvs x).length = 20 by rw [bvs_length, hx])
  clear hx hn
  generalize hy : be 20 (num x - 1) = y at *
  have LY := Lib.hid (show y.length = 20 by rw [← hy, be_length])
  have HY := Lib.hid hy
  clear hy
  go_enter Try.func32, Try.ntmps32
  go_wp2_with (go_at_call 36; refine (fromBytes_ok a1 x c1 _ h1 L.out).mono ?_)
  rintro e w2 ⟨rfl, hb2⟩
  go_wp2_with (refine wp_alloc_blk ksArr hb2 rfl rfl rfl hb2.size ?_)
  intro w3 b3 g3 s3 hb3
  clear s3
  go_wp2_with (refine wp_store_blk ksArr hb3 rfl rfl rfl rfl b3 hb2.size rfl L20.out (bvs_one _) ?_)
  intro w4 b4 g4 s4 hb4
  clear s4
  go_wp2_with (first | (refine wp_load_blk ksArr rfl rfl rfl b4 L20.out ?_) | (go_at_call 48; refine (prevB_ok x L.out HN.out _).mono ?_))
  rintro e w5 ⟨rfl, hb5⟩
  rw [HY.out]
  go_wp2_with (go_at_call 38; refine (bytes_ok _ _ LY.out).mono ?_)
  rintro e w6 ⟨rfl, b6, hb6, -⟩
  go_wp2
  exact ret_tmp2 rfl rfl rfl rfl ⟨_, rfl, b6, (hb4.trans (hb5.mono hb4.size)).trans (hb6.mono (hb4.trans (hb5.mono hb4.size)).size)⟩
set_option maxRecDepth 100000 in
theorem ksuidPrev_walk (a0 : Option Addr) (x0 : List UInt8) (c0 : Nat) (w : World) (h0 : Rd w a0 x0) (_ : x0.length ≤ c0) (_ : c0 ≤ 9223372036854775807) :
    Calls Try.prog 10 #[.slice a0 x0.length c0] w fun e w' => e = .returned (.bool true) ∧ Below w.heap.size w w' := by
  have hb := Below.refl w.heap.size w
  have hl := h0.1
  by_cases hbig : 2147483647 < x0.length
  · clear h0
    generalize x0.length = n at *
    go_enter Try.func10, Try.ntmps10
    go_wp2
    go_ret
    exact ⟨rfl, hb⟩
  · by_cases hlen : x0.length = 20
    · rw [hlen]
      have L := Lib.hid hlen
      by_cases hn : 0 < num x0
      · have HN := Lib.hid hn
        clear hlen hl hbig hn
        have hm := less_any a0 x0 c0 20 w h0 L.out (by decide) (by decide)
        generalize hy : be 20 (num x0 - 1) = y at *
        have LY := Lib.hid (show y.length = 20 by rw [← hy, be_length])
        have HY := Lib.hid hy
        clear hy
        have hm2 : Calls Try.prog 31 #[.slice a0 20 c0] w fun e w' => ∃ g cap, e = .returned (.tuple #[.slice (some ⟨g, 0, none⟩) 20 cap, .bool true]) ∧ Rd w' (some ⟨g, 0, none⟩) y ∧ Below w.heap.size w w' := by
          refine hm.mono ?_
          rintro e w' ⟨g, cap, ok, rfl, hr, hok, hb'⟩
          obtain rfl : ok = true := hok.2 HN.out
          exact ⟨g, cap, rfl, hr rfl, hb'⟩
        have HM := Lib.hid hm2
        clear hm hm2
        go_enter Try.func10, Try.ntmps10
        go_wp2_with (first | (go_at_call 31; refine HM.out.mono ?_; rintro e w2 ⟨g2, cap2, rfl, r2, hb2⟩) | (go_at_call 32; refine (ksuidPrev_ok a0 x0 c0 _ (h0.kept hb2) L.out HN.out).mono ?_; rw [HY.out]; rintro e w3 ⟨g3, rfl, b3, hb3⟩) | (go_at_call 15; refine (same_eq (b3.rd (by rw [LY.out]; decide)) (r2.kept hb3) LY.out LY.out).mono ?_; rintro e w4 ⟨rfl, n4, rfl⟩))
        go_ret
        exact ⟨rfl, below_drewN (hb2.trans (hb3.mono hb2.size)) _⟩
      · have HN := Lib.hid hn
        clear hlen hl hbig hn
        have hm := less_any a0 x0 c0 20 w h0 L.out (by decide) (by decide)
        have hm2 : Calls Try.prog 31 #[.slice a0 20 c0] w fun e w' => (∃ g cap, e = .returned (.tuple #[.slice (some ⟨g, 0, none⟩) 20 cap, .bool false])) ∧ Below w.heap.size w w' := by
          refine hm.mono ?_
          rintro e w' ⟨g, cap, ok, rfl, hr, hok, hb'⟩
          obtain rfl : ok = false := by
            cases ok
            · rfl
            · exact absurd (hok.1 rfl) HN.out
          exact ⟨⟨g, cap, rfl⟩, hb'⟩
        have HM := Lib.hid hm2
        clear hm hm2
        go_enter Try.func10, Try.ntmps10
        go_wp2_with (go_at_call 31; refine HM.out.mono ?_; rintro e w2 ⟨⟨g2, cap2, rfl⟩, hb2⟩)
        go_ret
        exact ⟨rfl, hb2⟩
    · have hne : ((x0.length : Int) != 20) = true := by rw [bne_iff_ne]; omega
      by_cases hz : x0 = []
      · subst hz
        go_enter Try.func10, Try.ntmps10
        go_wp2_with (go_at_call 31; refine (less_nil a0 c0 _).mono ?_; rintro e w2 ⟨⟨v2, rfl⟩, hb2⟩)
        go_ret
        exact ⟨rfl, hb2⟩
      · have hp : 0 < x0.length := List.length_pos_iff.2 hz
        have hm := less_any a0 x0 c0 x0.length w h0 rfl hp (by omega)
        have hm2 : Calls Try.prog 31 #[.slice a0 x0.length c0] w fun e w' => (∃ g cap ok, e = .returned (.tuple #[.slice (some ⟨g, 0, none⟩) x0.length cap, .bool ok])) ∧ Below w.heap.size w w' := by
          refine hm.mono ?_
          rintro e w' ⟨g, cap, ok, rfl, hr, hok, hb'⟩
          exact ⟨⟨g, cap, ok, rfl⟩, hb'⟩
        clear hm h0 hz hlen
        generalize x0.length = n at *
        have HM := Lib.hid hm2
        clear hm2
        go_enter Try.func10, Try.ntmps10
        go_wp2_with (go_at_call 31; refine HM.out.mono ?_; rintro e w2 ⟨⟨g2, cap2, ok2, rfl⟩, hb2⟩)
        go_ret
        exact ⟨rfl, hb2⟩
end Go.Proofs.Ytbacbgicfomkbaa
