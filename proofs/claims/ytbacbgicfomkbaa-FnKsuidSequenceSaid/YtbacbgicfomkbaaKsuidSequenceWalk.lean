/- The law FnKsuidSequence returns true, and turns nothing that was there. -/
import Derived.Test.YtbacbgicfomkbaaSq
import Derived.Test.YtbacbgicfomkbaaSpec
import Derived.Test.YtbacbgicfomkbaaMore
namespace Go.Proofs.Ytbacbgicfomkbaa
open Go.RowKit

theorem seqOut_all (x : List UInt8) (many : Nat) (h : many ≤ 40) : ∀ k, k ≤ many → seqOut x many k = (List.range k).map (seqAt x)
  | 0, _ => rfl
  | k + 1, hk => by rw [seqOut_yes x many k (by omega), seqOut_all x many h k (by omega), List.range_succ, List.map_append]; rfl

theorem below_drewN {B : Nat} {w w' : World} (h : Below B w w') (n : Nat) : Below B w (w'.drewN n) := ⟨h.os, h.tape, h.output, h.size, h.block⟩
theorem below_of_heap {B : Nat} {w w' : World} (h : Below w.heap.size w w') (hB : B ≤ w.heap.size) : Below B w w' := h.mono hB

theorem hLn_at {w : World} {a : Option Addr} {ls : List (List UInt8)} (h : RdL w a ls) (h0 : 0 < ls.length) : ∃ b off, a = some ⟨b, off, none⟩ ∧ ∀ i, i < ls.length → ∃ ai ci, w.cell? ⟨b, off + i, none⟩ = some (.slice ai (ls.getD i []).length ci) ∧ Rd w ai (ls.getD i []) :=
  h.2.resolve_left (by intro e; rw [e] at h0; exact absurd h0 (Nat.lt_irrefl 0))

set_option maxHeartbeats 2000000 in
set_option maxRecDepth 100000 in
theorem ksuidSequence_main (a0 : Option Addr) (x0 : List UInt8) (c0 : Nat) (n : Nat) (w : World) (h0 : Rd w a0 x0) (hlen : x0.length = 20) (hc : 20 ≤ c0) (hc' : c0 ≤ 9223372036854775807) (hn : n ≤ 40) :
    Calls Try.prog 4 #[.slice a0 20 c0, .int .i64 n] w fun e w' => e = .returned (.bool true) ∧ Below w.heap.size w w' := by
  have hb := Below.refl w.heap.size w
  have e1 : min n 65536 = n := by omega
  have e2 : min n 65535 = n := by omega
  have E1 := Lib.hid e1
  have E2 := Lib.hid e2
  have L := Lib.hid hlen
  have HA := Lib.hid (seqOut_all x0 n hn n (Nat.le_refl _))
  clear e1 e2 hlen
  go_enter Try.func4, Try.ntmps4
  go_wp2_with (go_at_call 13; refine (ksuidSequence_ok _ _ _ n _ h0 L.out (by omega)).mono ?_)
  rintro e w2 ⟨ra, rc, gl, gh, he, hL, bl, bh, hb2⟩
  rw [E1.out] at hL bl he
  rw [E2.out] at bl
  rw [HA.out] at hL he
  obtain ⟨Ls, hLs⟩ : ∃ Ls, Ls = (List.range n).map (seqAt x0) := ⟨_, rfl⟩
  rw [← hLs] at hL he
  have HLs := Lib.hid hLs
  have hLn : Ls.length = n := by rw [hLs]; simp
  rw [hLn] at he
  have HLn := Lib.hid hLn
  clear hLs hLn
  subst he
  have r0 := (h0.kept hb2).take 18
  have L18 : Hid ((x0.take 18).length = 18) := by show _ = _; rw [List.length_take, L.out]; rfl
  have rl := bl.rd (by rw [seqAt_length _ _ L.out]; omega)
  have rh := bh.rd (by rw [seqAt_length _ _ L.out]; omega)
  go_wp2_with fail
  refine region_plan (fun w' => Below w2.heap.size w2 w') [(0, 0), (1, 0), (2, 0), (3, 0), (4, 0), (5, 0), (6, 0), (7, 0), (8, 0), (9, 0), (10, 0), (11, 0), (12, 0), (13, 1), (14, 1), (15, 1), (16, 0), (17, 0), (18, 0), (19, 0), (20, 0), (21, 0), (22, 0), (23, 0), (24, 1), (25, 1), (26, 1), (27, 0), (28, 0)] rfl (by kernel_rfl) (by kernel_rfl) rfl (by intro c a d v w h; cases d <;> exact h) (fun _ _ h => h) ?_
  intro w3 hpW hb3
  clear hpW
  simp only [planOps, List.filterMap_cons, List.filterMap_nil, List.getElem?_cons_succ, List.getElem?_cons_zero, Option.map_some]
  repeat (first | (refine plan_still rfl (still_slice_to (k := 18) rfl Try.underlying22 (by kernel_rfl) rfl rfl (by omega) (by omega)) ?_) | (refine plan_skip rfl ?_) | (refine plan_still (v := ?_) rfl (fun w' hS => ?_) ?_; rotate_left; (focus (go_simp; first | done | with_reducible rfl))); simp only [Act.put, List.setIfInBounds_toArray, List.set_cons_zero, List.set_cons_succ])
  refine plan_do ?_
  go_wp2
  have hb4 := hb3.alloc hb3.size (.cells #[.int .u8 255, .int .u8 255] 5)
  have rb : Rd (w3.alloc (.cells #[.int .u8 255, .int .u8 255] 5)) (some ⟨w3.heap.size, 0, none⟩) [255, 255] := (Blk.new w3 (bvs [255, 255]) 5).rd (by decide)
  refine ⟨hb4, plan_do ?_⟩
  go_wp2_with (go_at_call 14; refine (join_at (n2 := 2) _ _ (r0.kept hb4) rb L18.out rfl (by omega)).mono ?_)
  rintro e w5 ⟨ja, jc, rfl, rj, -, hb5⟩
  have hb25 := hb4.trans (hb5.mono hb4.size)
  have J : Hid (x0.take 18 ++ [255, 255] = seqAt x0 65535) := by unfold seqAt; rfl
  rw [J.out] at rj
  go_wp2
  refine ⟨hb25, plan_do ?_⟩
  go_wp2_with (go_at_call 15; refine (same_eq (rh.kept hb25) rj (seqAt_length _ _ L.out) (seqAt_length _ _ L.out)).mono ?_)
  rintro e w6 ⟨rfl, n6, rfl⟩
  have hb26 := below_drewN hb25 n6
  clear hb4 hb5 hb3 rb rj
  generalize w5.drewN n6 = w6 at *
  go_wp2
  refine ⟨hb26, ?_⟩
  repeat (first | (refine plan_still rfl (still_slice_to (k := 18) rfl Try.underlying22 (by kernel_rfl) rfl rfl (by omega) (by omega)) ?_) | (refine plan_skip rfl ?_) | (refine plan_still (v := ?_) rfl (fun w' hS => ?_) ?_; rotate_left; (focus (go_simp; first | done | with_reducible rfl))); simp only [Act.put, List.setIfInBounds_toArray, List.set_cons_zero, List.set_cons_succ])
  refine plan_do ?_
  go_wp2_with (go_at_call 16; refine (specBytes_ok n 2 _ (by omega) (by omega)).mono ?_)
  rintro e w7 ⟨rfl, b7, hb7⟩
  have hb27 := hb26.trans (hb7.mono hb26.size)
  have r7 := b7.rd (by rw [be_length]; omega)
  go_wp2
  refine ⟨hb27, plan_do ?_⟩
  go_wp2_with (go_at_call 14; refine (join_at (n2 := 2) _ _ (r0.kept hb27) r7 L18.out rfl (by omega)).mono ?_)
  rintro e w8 ⟨ja2, jc2, rfl, rj, -, hb8⟩
  have hb28 := hb27.trans (hb8.mono hb27.size)
  go_wp2
  refine ⟨hb28, plan_do ?_⟩
  go_wp2_with (go_at_call 15; refine (same_eq (rl.kept hb28) rj (seqAt_length _ _ L.out) (seqAt_length _ _ L.out)).mono ?_)
  rintro e w9 ⟨rfl, n9, rfl⟩
  have hb29 := below_drewN hb28 n9
  clear hb28 hb8 hb27 hb7 hb26 rj b7 r7
  generalize w8.drewN n9 = w9 at *
  go_wp2
  refine ⟨hb29, ?_⟩
  repeat (first | (refine plan_skip rfl ?_) | (refine plan_still (v := ?_) rfl (fun w' hS => ?_) ?_; rotate_left; (focus (go_simp; first | done | with_reducible rfl))); simp only [Act.put, List.setIfInBounds_toArray, List.set_cons_zero, List.set_cons_succ])
  refine plan_nil ?_
  have hbw := hb2.trans (hb29.mono hb2.size)
  have hL9 := hL.kept hb29
  clear hL rl rh bl bh
  clear hb29 hb2 r0
  have HL9 := Lib.hid (fun h => hLn_at hL9 h)
  go_wp2
  have h9 := h0.kept hbw
  clear h0 hb
  go_loopw [64] (fun i wr => ∃ k : Nat, k ≤ n ∧ i = .int .i64 k ∧ Below w9.heap.size w9 wr) (fun i _ => n - (intOf i).toNat)
  case atStart => exact ⟨0, by omega, rfl, Below.refl _ _⟩
  case round =>
    obtain ⟨k, hk, rfl, hr⟩ := hrel
    have hbr := hbw.trans (hr.mono hbw.size)
    by_cases hlt : k < n
    · obtain ⟨b, off, hra, hel⟩ := HL9.out (by rw [HLn.out]; omega)
      obtain ⟨ai, ci, hc, hrd⟩ := hel k (by rw [HLn.out]; omega)
      have hg : Ls.getD k [] = seqAt x0 k := by rw [HLs.out]; simp [hlt]
      rw [hg, seqAt_length _ _ L.out] at hc
      rw [hg] at hrd
      have hc' := hr.cell (World.block_lt_of_cell? _ _ hc)
      rw [hc] at hc'
      have hrd' := hrd.kept hr
      have h9' := (h9.take 18).kept hr
      clear hc hel hg hL9
      subst hra
      go_wp2_with fail
      refine region_plan (fun w' => Below wr.heap.size wr w') [(0, 0), (1, 0), (2, 0), (3, 0), (4, 0), (5, 1), (6, 1), (7, 1), (8, 0)] rfl (by kernel_rfl) (by kernel_rfl) rfl (by intro c a d v w h; cases d <;> exact h) (fun _ _ h => h) ?_
      intro w3 hpW hb3
      clear hpW
      simp only [planOps, List.filterMap_cons, List.filterMap_nil, List.getElem?_cons_succ, List.getElem?_cons_zero, Option.map_some]
      repeat (first | (refine plan_still rfl (still_slice_to (k := 18) rfl Try.underlying22 (by kernel_rfl) rfl rfl (by omega) (by omega)) ?_) | (refine plan_skip rfl ?_) | (refine plan_still (v := ?_) rfl (fun w' hS => ?_) ?_; rotate_left; (focus (go_simp; first | done | with_reducible rfl))); simp only [Act.put, List.setIfInBounds_toArray, List.set_cons_zero, List.set_cons_succ])
      refine plan_do ?_
      go_wp2_with (go_at_call 16; refine (specBytes_ok k 2 _ (by omega) (by omega)).mono ?_)
      rintro e w7 ⟨rfl, b7, hb7⟩
      have hb8 := hb3.trans (hb7.mono hb3.size)
      have r7 := b7.rd (by rw [be_length]; omega)
      go_wp2
      refine ⟨hb8, plan_do ?_⟩
      go_wp2_with (go_at_call 14; refine (join_at (n2 := 2) _ _ (h9'.kept hb8) r7 L18.out rfl (by omega)).mono ?_)
      rintro e w8 ⟨ja2, jc2, rfl, rj, -, hb9⟩
      have hb10 := hb8.trans (hb9.mono hb8.size)
      go_wp2
      refine ⟨hb10, plan_do ?_⟩
      go_wp2_with (go_at_call 15; refine (same_eq (hrd'.kept hb10) rj (seqAt_length _ _ L.out) (seqAt_length _ _ L.out)).mono ?_)
      rintro e w10 ⟨rfl, n10, rfl⟩
      have hb11 := below_drewN hb10 n10
      clear hb9 hb8 hb7 rj b7 r7 hb10 hb3
      generalize w8.drewN n10 = w10 at *
      go_wp2
      refine ⟨hb11, ?_⟩
      repeat (first | (refine plan_skip rfl ?_) | (refine plan_still (v := ?_) rfl (fun w' hS => ?_) ?_; rotate_left; (focus (go_simp; first | done | with_reducible rfl))); simp only [Act.put, List.setIfInBounds_toArray, List.set_cons_zero, List.set_cons_succ])
      refine plan_nil ?_
      have hbE := hr.trans (hb11.mono hr.size)
      go_wp2
      go_roundw
      case rel => exact ⟨k + 1, by omega, by go_num, hbE⟩
      case measure => simp [intOf]; omega
    · obtain rfl : k = n := by omega
      go_wp2
      go_ret
      exact ⟨rfl, hbr⟩

set_option maxRecDepth 100000 in
theorem ksuidSequence_walk (a0 : Option Addr) (x0 : List UInt8) (c0 : Nat) (a1 : Int) (w : World) (h0 : Rd w a0 x0) (hc : x0.length ≤ c0) (hc' : c0 ≤ 9223372036854775807) (w1 : (Lit.int .i64 a1).wf = true) :
    Calls Try.prog 4 #[.slice a0 x0.length c0, .int .i64 a1] w fun e w' => e = .returned (.bool true) ∧ Below w.heap.size w w' := by
  by_cases hlen : x0.length = 20
  · by_cases ha : 0 ≤ a1 ∧ a1 ≤ 40
    · obtain ⟨n, rfl⟩ : ∃ n : Nat, a1 = n := ⟨a1.toNat, by omega⟩
      rw [hlen]
      exact ksuidSequence_main a0 x0 c0 n w h0 hlen (by omega) hc' (by omega)
    · have hb := Below.refl w.heap.size w
      rw [hlen]
      clear h0 w1 hlen
      by_cases hs : a1 < 0
      all_goals
        go_enter Try.func4, Try.ntmps4
        go_wp2
        go_ret
        exact ⟨rfl, hb⟩
  · have hb := Below.refl w.heap.size w
    have hne : ((x0.length : Int) != 20) = true := by rw [bne_iff_ne]; omega
    have hl := h0.1
    clear h0 w1 hlen
    by_cases hbig : 2147483647 < x0.length
    all_goals
      go_enter Try.func4, Try.ntmps4
      go_wp2
      go_ret
      exact ⟨rfl, hb⟩
end Go.Proofs.Ytbacbgicfomkbaa
