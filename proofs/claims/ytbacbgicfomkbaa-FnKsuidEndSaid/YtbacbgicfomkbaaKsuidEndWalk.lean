/- The law FnKsuidEnd returns true, and turns nothing that was there. -/
import Derived.Test.YtbacbgicfomkbaaSq
import Derived.Test.YtbacbgicfomkbaaSpec
namespace Go.Proofs.Ytbacbgicfomkbaa
open Go.RowKit

set_option maxHeartbeats 1000000 in
set_option maxRecDepth 100000 in
theorem ksuidEnd_walk (a0 : Option Addr) (x0 : List UInt8) (c0 : Nat) (a1 : Int) (w : World) (h0 : Rd w a0 x0) (hc : x0.length ≤ c0) (hc' : c0 ≤ 9223372036854775807) (w1 : (Lit.int .u8 a1).wf = true) :
    Calls Try.prog 3 #[.slice a0 x0.length c0, .int .u8 a1] w fun e w' => e = .returned (.bool true) ∧ Below w.heap.size w w' := by
  have hb := Below.refl w.heap.size w
  by_cases hlen : x0.length = 20
  · simp [Lit.wf, IntKind.min, IntKind.max, IntKind.signed, IntKind.bits] at w1
    obtain ⟨n, rfl⟩ : ∃ n : Nat, a1 = n := ⟨a1.toNat, by omega⟩
    have hn : n ≤ 255 := by omega
    clear w1
    have e : min (65537 + n) 65536 = 65536 := by omega
    have E := Lib.hid e
    have L := Lib.hid hlen
    rw [hlen]
    rw [hlen] at hc
    clear e hlen
    go_enter Try.func3, Try.ntmps3
    go_wp2_with (go_at_call 13; refine (ksuidSequence_ok _ _ _ (65537 + n) _ h0 L.out (by omega)).mono ?_)
    rintro e w2 ⟨ra, rc, gl, gh, he, hL, bl, bh, hb2⟩
    rw [E.out] at hL bl he
    subst he
    have r0 := (h0.kept hb2).take 18
    have l18 : (x0.take 18).length = 18 := by rw [List.length_take, L.out]; rfl
    have L18 := Lib.hid l18
    clear l18
    have rb : Rd (w2.alloc (.cells #[.int .u8 255, .int .u8 255] 5)) (some ⟨w2.heap.size, 0, none⟩) [255, 255] := (Blk.new w2 (bvs [255, 255]) 5).rd (by decide)
    have hb3 := (Below.refl w2.heap.size w2).alloc (Nat.le_refl _) (.cells #[.int .u8 255, .int .u8 255] 5)
    have hl0 : 0 < (seqOut x0 (65537 + n) 65536).length := by
      rw [seqOut, List.length_map, List.length_pos_iff]
      intro e
      have : (0 : Nat) ∈ (List.range 65536).filter (fun i => i + 1 ≤ 40 ∨ 65537 + n < i + 1 + 5) := List.mem_filter.2 ⟨List.mem_range.2 (by omega), by simp⟩
      rw [e] at this
      cases this
    have hmax := hL.1
    generalize seqOut x0 (65537 + n) 65536 = L0 at *
    go_wp2_with (go_at_call 14; refine (join_at (n2 := 2) _ _ (r0.kept hb3) rb L18.out rfl (by omega)).mono ?_)
    rintro e w4 ⟨ja, jc, rfl, rj, -, hb4⟩
    have bl4 := ((bl.kept hb3).kept hb4).rd (by rw [seqAt_length _ _ L.out]; omega)
    have bh4 := ((bh.kept hb3).kept hb4).rd (by rw [seqAt_length _ _ L.out]; omega)
    have hbw := (hb2.trans (hb3.mono hb2.size)).trans (hb4.mono (Nat.le_trans hb2.size hb3.size))
    have J : Hid (x0.take 18 ++ [255, 255] = seqAt x0 65535) := by unfold seqAt; rfl
    rw [J.out] at rj
    rw [show min 65536 65535 = 65535 from rfl] at bl4
    go_wp2_with (first | (go_at_call 15; (with_reducible refine (same_eq bl4 rj (seqAt_length _ _ L.out) (seqAt_length _ _ L.out)).mono ?_); rintro e w5 ⟨rfl, n5, rfl⟩) | (go_at_call 15; (with_reducible refine (same_eq (bh4.drew _) (rj.drew _) (seqAt_length _ _ L.out) (seqAt_length _ _ L.out)).mono ?_); rintro e w6 ⟨rfl, n6, rfl⟩))
    go_ret
    exact ⟨rfl, hbw.trans ⟨rfl, rfl, rfl, Nat.le_refl _, fun _ _ => rfl⟩⟩
  · have hne : ((x0.length : Int) != 20) = true := by rw [bne_iff_ne]; omega
    have hl := h0.1
    by_cases hbig : 2147483647 < x0.length
    · go_enter Try.func3, Try.ntmps3
      go_wp2
      go_ret
      exact ⟨rfl, hb⟩
    · go_enter Try.func3, Try.ntmps3
      go_wp2
      go_ret
      exact ⟨rfl, hb⟩
end Go.Proofs.Ytbacbgicfomkbaa
