/- Contracts: UUIDs of version 7 of one clock. -/
import Derived.Test.YtbnkbgbgdolihaaClockA
namespace Go.Proofs.Ytbnkbgbgdolihaa
open Go.RowKit
set_option linter.unusedVariables false
theorem infoL : (Try.prog.info? 22).map (fun i => (i.zero, i.size, i.bytes)) = some (some (.slice none 0 0), 1, 24) := by kernel_rfl
set_option maxRecDepth 100000 in
set_option maxHeartbeats 1000000 in
theorem uuidClock7_ok (at_ ar an ab : Option Addr) (zs : List Int) (ts : List Nat) (r nd x : List UInt8) (n ct cr cn cb : Nat) (w : World) (hT : RdI .i64 w at_ zs) (hn : zs.length = n) (hz : zs = ts.map Int.ofNat) (hts : ∀ t ∈ ts, t ≤ 4102444800000000000) (hn12 : n ≤ 12)
    (hr : Rd w ar r) (hrl : r.length = 2) (hnd : Rd w an nd) (hnl : nd.length = 6) (hx : Rd w ab x) (hxl : x.length = 16) (hcb : 16 ≤ cb) (hcb2 : cb ≤ 9223372036854775807) (hcr : 2 ≤ cr) (hcn : 6 ≤ cn) :
    Calls Try.prog 20 #[.int .i64 7, .slice at_ n ct, .slice ar 2 cr, .slice an 6 cn, .slice ab 16 cb] w fun e w' => ∃ v vals, e = .returned (.tuple #[v, .bool true]) ∧ w'.ownsRow w.heap.size 22 1 v vals.length vals ∧ Elems w' w.heap.size 5 vals (v7s x ts n) ∧ CapOk vals ∧ Below w.heap.size w w' := by
  have hb := Below.refl w.heap.size w
  have hlen : ts.length = n := by rw [← hn, hz]; simp
  obtain ⟨br, or_, rfl, -⟩ := hr.2.resolve_left (by intro h; simp [h] at hrl)
  obtain ⟨bn, on, rfl, -⟩ := hnd.2.resolve_left (by intro h; simp [h] at hnl)
  obtain ⟨bx, ox, rfl, hcx⟩ := hx.2.resolve_left (by intro h; simp [h] at hxl)
  have hbx : bx < w.heap.size := World.block_lt_of_cell? w _ (hcx 0 (by omega))
  clear hcx
  match r, hrl, hr with
  | [r0, r1], hrl, hr =>
  match nd, hnl, hnd with
  | [n0, n1, n2, n3, n4, n5], hnl, hnd =>
  have HN := Lib.hid hn
  have HZ := Lib.hid hz
  have HX := Lib.hid hxl
  have HTS := Lib.hid hts
  have HLen := Lib.hid hlen
  clear hn hz hxl hts hlen
  go_enter Try.func20, Try.ntmps20
  go_wp2_with fail
  refine region_plan (fun w' => Below w.heap.size w w') [(0, 0), (1, 0), (2, 0), (3, 0), (4, 0), (5, 0), (6, 0), (7, 1), (8, 0)] rfl (by kernel_rfl) (by kernel_rfl) rfl (by intro c a d v w h; cases d <;> exact h) (fun _ _ h => h) ?_
  intro w1 hpW hb1
  clear hpW
  simp only [planOps, List.filterMap_cons, List.filterMap_nil, List.getElem?_cons_succ, List.getElem?_cons_zero, Option.map_some]
  refine plan_still (v := .slice (some ⟨br, or_, none⟩) 2 cr) rfl (fun w' hS => rfl) ?_
  simp only [Act.put, List.setIfInBounds_toArray, List.set_cons_zero, List.set_cons_succ]
  refine plan_still rfl (still_s2a rfl Try.underlying75 rfl (by decide)) ?_
  simp only [Act.put, List.setIfInBounds_toArray, List.set_cons_zero, List.set_cons_succ]
  refine plan_still rfl (still_rdarr arr2 rfl rfl (fun w' hS => hr.kept hS) rfl (by decide)) ?_
  simp only [Act.put, List.setIfInBounds_toArray, List.set_cons_zero, List.set_cons_succ]
  refine plan_still (v := .slice (some ⟨bn, on, none⟩) 6 cn) rfl (fun w' hS => rfl) ?_
  simp only [Act.put, List.setIfInBounds_toArray, List.set_cons_zero, List.set_cons_succ]
  refine plan_still rfl (still_s2a rfl Try.underlying76 rfl (by decide)) ?_
  simp only [Act.put, List.setIfInBounds_toArray, List.set_cons_zero, List.set_cons_succ]
  refine plan_still rfl (still_rdarr arr6 rfl rfl (fun w' hS => hnd.kept hS) rfl (by decide)) ?_
  simp only [Act.put, List.setIfInBounds_toArray, List.set_cons_zero, List.set_cons_succ]
  refine plan_still rfl (still_build2 (u := .agg (bvs [r0, r1]).toArray) (v := .agg (bvs [n0, n1, n2, n3, n4, n5]).toArray) (r := .agg (clockC 0 [r0, r1] [n0, n1, n2, n3, n4, n5] 0 0 0).toArray) rfl rfl rfl (fun w' => build_clock r0 r1 n0 n1 n2 n3 n4 n5 w')) ?_
  simp only [Act.put, List.setIfInBounds_toArray, List.set_cons_zero, List.set_cons_succ]
  refine plan_do ?_
  go_wp2_with (refine wp_box_blk clockArr hb1 rfl rfl rfl rfl hb1.size ?_)
  intro w2 b2 g2 s2 hb2
  clear s2
  have hs1 : w.heap.size ≤ w1.heap.size := hb1.size
  generalize w1.heap.size = gk at *
  refine ⟨hb2, ?_⟩
  refine plan_still (v := .pointer (some ⟨gk, 0, none⟩)) rfl (fun w' hS => rfl) ?_
  simp only [Act.put, List.setIfInBounds_toArray, List.set_cons_zero, List.set_cons_succ]
  refine plan_nil ?_
  go_wp2_with fail
  go_loopw [13, 37] (fun v i wr => ∃ k : Nat, k ≤ n ∧ i = .int .i64 k ∧ (∃ t0, Blk wr gk (clockC t0 [r0, r1] [n0, n1, n2, n3, n4, n5] 0 0 (nowAt ts k)) 79) ∧ Below w.heap.size w wr ∧
      ∃ vals, wr.ownsRow w.heap.size 22 1 v vals.length vals ∧ Elems wr w.heap.size 5 vals (v7s x ts k) ∧ CapOk vals) (fun _ i _ => n - (intOf i).toNat)
  case atStart => exact ⟨0, Nat.zero_le _, rfl, ⟨0, b2.kept ((Below.refl _ _).alloc (Nat.le_refl _) _)⟩, hb2.alloc hb2.size _, [], World.ownsRow_lit w2 #[] 0 hb2.size (by unfold maxLen; omega) rfl, Elems.nil _ _ _, CapOk.nil⟩
  case round =>
    obtain ⟨k, hk, rfl, ⟨t0, hq⟩, hbw, vals, hown, hel, hcap⟩ := hrel
    by_cases hlt : k < n
    · have hTk := hT.kept hbw
      obtain ⟨bt, ot, rfl, hct⟩ := hTk.2.2.resolve_left (by intro h; have := HN.out; simp [h] at this; omega)
      have hc := hct k (by rw [HN.out]; exact hlt)
      have hzk : zs.getD k 0 = ((ts.getD k 0 : Nat) : Int) := by
        rw [HZ.out]
        have : k < ts.length := by rw [HLen.out]; exact hlt
        simp [this]
      rw [hzk] at hc
      have htk := getD_le ts HTS.out k
      have hnk := nowAt_le ts HTS.out k
      have hnx : Hid (next7 (nowAt ts k) (ts.getD k 0) = nowAt ts (k + 1)) := Lib.hid rfl
      generalize ts.getD k 0 = t at *
      generalize nowAt ts k = l7 at *
      have hl7 : l7 ≤ 1000000000000000000 := by omega
      have HM := Lib.hid hnk
      clear hct hzk hTk hnk
      go_wp2_with (refine wp_store_cell (i := 0) rfl rfl (by kernel_rfl) rfl rfl rfl hq (by rw [clock_len _ _ _ _ _ _ rfl rfl]; decide) ?_)
      intro w3 b3 g3 s3
      clear s3
      rw [clock_set0] at b3
      have hbw3 := hbw.grown g3 hbw.size (by rintro j ⟨⟩; exact hs1)
      go_wp2_with (refine wp_alloc_blk uuArr hbw3 rfl rfl rfl hbw3.size ?_)
      intro w4 b4 g4 s4 hb4
      clear s4
      have k4 := b3.grown g4 (by simp)
      have l3 : w.heap.size ≤ w3.heap.size := hbw3.size
      have q34 : gk < w3.heap.size := b3.lt
      go_wp2_with (refine wp_box_blk feedArr hb4 rfl rfl (cs := feedC (some ⟨bx, ox, none⟩) 16 cb (.iface 68 (.string EOF))) rfl rfl hb4.size ?_)
      intro w5 b5 g5 s5 hb5
      clear s5
      have k5 := k4.grown g5 (by simp)
      have b45 := b4.grown g5 (by simp)
      have x5 := hx.kept hb5
      have q45 : w3.heap.size < w4.heap.size := b4.lt
      have G5 : wr.grownBy w5 (some gk) := grown_trans (grown_trans g3 (grown_none g4 _)) (grown_none g5 _)
      have l4 : w.heap.size ≤ w4.heap.size := hb4.size
      have hqr := hq.lt
      have hr3 : wr.heap.size ≤ w3.heap.size := g3.size
      generalize w3.heap.size = q3 at *
      generalize w4.heap.size = gf at *
      have LV := Lib.hid (show (bvs (v7L x (nowAt ts (k + 1)))).length = 16 by rw [bvs_length, v7L_length x _ (by rw [HX.out]; decide)])
      have LW := Lib.hid (v7L_length x (nowAt ts (k + 1)) (by rw [HX.out]; decide))
      have HVS := Lib.hid (v7s_succ x ts k)
      go_wp2_with (first | (go_at_call 37; refine (newV7_ok gk gf 16 cb bx ox t 0 0 l7 [r0, r1] [n0, n1, n2, n3, n4, n5] x _ _ _ _ k5 b5 x5 HX.out (by decide) hcb hcb2 (by omega) (by omega) rfl rfl htk hl7).mono ?_; rw [hnx.out]; rintro e6 w6 ⟨rfl, k6, F6, hb06⟩; have b46 : Blk w6 q3 Z16 55 := (F6 q3 b45.lt (by omega) (by omega)).trans b45; have hbw6 : Below w.heap.size w w6 := hb5.trans ⟨hb06.os, hb06.tape, hb06.output, hb06.size, fun j hj => F6 j (by have := hb5.size; omega) (by omega) (by omega)⟩) | (refine wp_store_blk uuArr hbw6 rfl rfl rfl rfl b46 l3 rfl LV.out (bvs_one _) ?_))
      intro w7 b7 g7 s7 hb7
      clear s7
      have G6 : wr.grownBy w6 (some gk) := ⟨hb06.os.trans G5.os, hb06.tape.trans G5.tape, hb06.output.trans G5.output, Nat.le_trans G5.size hb06.size, fun j hj hne => (F6 j (Nat.lt_of_lt_of_le hj G5.size) (by omega) (by simpa using hne)).trans (G5.block j hj hne)⟩
      have G7 : wr.grownBy w7 (some gk) := grown_new G6 g7 hr3
      have k7 := k6.grown g7 (by intro e; have := Option.some.inj e; omega)
      have hown7 := hown.kept G7 (.inr (fun e => own_ne hown hq (by decide) e.symm))
      have hel7 := hel.grownB hq (by decide) G7
      clear F6 b46 b45 hown hel G6 G5 G7 g7 g3 g4 g5 b5 k6 k5
      go_wp2_with (first | (refine wp_load_blk uuArr rfl rfl rfl b7 LV.out ?_) | (go_at_call 31; refine (bytesOf_ok _ _ LW.out).mono ?_; rintro e w8 ⟨v8, rfl, o8, hb8⟩; have hown8 := own_kept hown7 hb8; have hel8 := hel7.kept hb8; obtain ⟨g8, cap8, more8, rfl, B8, hg8, hc8⟩ := o8.blkC LW.out (by decide)) | (at_builtin; refine wp_append_one rfl rfl Try.underlying38 infoL rfl rfl rfl rfl rfl hown8 (by have := hel8.1; rw [v7s_length] at this; omega) (by have := hel8.1; rw [v7s_length] at this; omega) (Nat.le_trans hb7.size hb8.size) ?_))
      intro v' w10 hown10 hg10
      have k10 := (k7.kept hb8).grown hg10 (own_ne hown8 (k7.kept hb8) (by decide))
      have hel10 := (hel8.grown hown8 (by decide) hg10).snoc (l := v7L x (nowAt ts (k + 1))) (cap := cap8) (more := more8) (Nat.le_trans hb7.size hg8) (by rw [LW.out]; decide) (B8.grown hg10 (own_ne hown8 B8 (by decide)))
      rw [LW.out, ← HVS.out] at hel10
      have hbw10 := (hb7.trans (hb8.mono hb7.size)).grown hg10 (Nat.le_trans hb7.size hb8.size) (fun j hj => (hown8.lt j hj).1)
      clear hown8 hel8 hel7 hown7 k7 B8 hg10 hb7 hb8 o8
      go_wp2
      go_roundw
      case rel => exact ⟨k + 1, by omega, by go_num, ⟨t, k10⟩, hbw10, _, by simpa using hown10, hel10, hcap.snoc hc8⟩
      case measure => simp [intOf]; omega
    · obtain rfl : k = n := by omega
      go_wp2
      exact ret_tmp2 rfl rfl rfl rfl ⟨_, vals, rfl, hown, hel, hcap, hbw⟩
end Go.Proofs.Ytbnkbgbgdolihaa
