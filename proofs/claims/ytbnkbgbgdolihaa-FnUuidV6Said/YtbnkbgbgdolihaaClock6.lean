/- Contracts: UUIDs of version 6 of one clock. -/
import Derived.Test.YtbnkbgbgdolihaaV6
namespace Go.Proofs.Ytbnkbgbgdolihaa
open Go.RowKit
set_option linter.unusedVariables false
/-- The UUIDs. -/
def v6s (r0 r1 : UInt8) (nd : List UInt8) (ts : List Nat) (k : Nat) : List (List UInt8) := (List.range k).map fun j => v6L (stampOf (ts.getD j 0)) (csAt r0 r1 ts (j + 1)) nd
theorem v6s_succ (r0 r1 : UInt8) (nd : List UInt8) (ts : List Nat) (k : Nat) : v6s r0 r1 nd ts (k + 1) = v6s r0 r1 nd ts k ++ [v6L (stampOf (ts.getD k 0)) (csAt r0 r1 ts (k + 1)) nd] := by simp [v6s, List.range_succ]
theorem v6s_length (r0 r1 : UInt8) (nd : List UInt8) (ts : List Nat) (k : Nat) : (v6s r0 r1 nd ts k).length = k := by simp [v6s]
set_option maxRecDepth 100000 in
set_option maxHeartbeats 1000000 in
theorem uuidClock6_ok (at_ ar an : Option Addr) (vb : Value) (zs : List Int) (ts : List Nat) (r0 r1 n0 n1 n2 n3 n4 n5 : UInt8) (n ct cr cn : Nat) (w : World) (hT : RdI .i64 w at_ zs) (hn : zs.length = n) (hz : zs = ts.map Int.ofNat) (hts : ∀ t ∈ ts, t ≤ 4102444800000000000) (hn12 : n ≤ 12)
    (hr : Rd w ar [r0, r1]) (hnd : Rd w an [n0, n1, n2, n3, n4, n5]) (hcr : 2 ≤ cr) (hcn : 6 ≤ cn) :
    Calls Try.prog 20 #[.int .i64 6, .slice at_ n ct, .slice ar 2 cr, .slice an 6 cn, vb] w fun e w' => ∃ v vals, e = .returned (.tuple #[v, .bool true]) ∧ w'.ownsRow w.heap.size 22 1 v vals.length vals ∧ Elems w' w.heap.size 5 vals (v6s r0 r1 [n0, n1, n2, n3, n4, n5] ts n) ∧ CapOk vals ∧ Below w.heap.size w w' := by
  have hb := Below.refl w.heap.size w
  have hlen : ts.length = n := by rw [← hn, hz]; simp
  obtain ⟨br, or_, rfl, -⟩ := hr.2.resolve_left (by simp)
  obtain ⟨bn, on, rfl, -⟩ := hnd.2.resolve_left (by simp)
  have HN := Lib.hid hn
  have HZ := Lib.hid hz
  have HTS := Lib.hid hts
  have HLen := Lib.hid hlen
  clear hn hz hts hlen
  go_enter Try.func20, Try.ntmps20
  go_wp2_with fail
  refine region_plan (fun w' => Below w.heap.size w w') [(0, 0), (1, 0), (2, 0), (3, 0), (4, 0), (5, 0), (6, 0), (7, 1), (8, 0)] rfl (by kernel_rfl) (by kernel_rfl) rfl (by intro c a d v w h; cases d <;> exact h) (fun _ _ h => h) ?_
  intro w1 hpW hb1
  clear hpW
  simp only [planOps, List.filterMap_cons, List.filterMap_nil, List.getElem?_cons_succ, List.getElem?_cons_zero, Option.map_some]
  refine plan_still (v := .slice (some ⟨br, or_, none⟩) 2 cr) rfl (fun w' hS => rfl) ?_
  simp only [Act.put, List.setIfInBounds_toArray, List.set_cons_zero, List.set_cons_succ]
  refine plan_still rfl (still_s2a rfl Try.underlying75 rfl (by decide)) ?_
  simp only [Act.put, List.setIfInBounds_toArray, List.set_cons_zero, List.set_cons_succ]
  refine plan_still rfl (still_rdarr arr2 rfl rfl (fun w' hS => hr.kept hS) rfl (by decide)) ?_
  simp only [Act.put, List.setIfInBounds_toArray, List.set_cons_zero, List.set_cons_succ]
  refine plan_still (v := .slice (some ⟨bn, on, none⟩) 6 cn) rfl (fun w' hS => rfl) ?_
  simp only [Act.put, List.setIfInBounds_toArray, List.set_cons_zero, List.set_cons_succ]
  refine plan_still rfl (still_s2a rfl Try.underlying76 rfl (by decide)) ?_
  simp only [Act.put, List.setIfInBounds_toArray, List.set_cons_zero, List.set_cons_succ]
  refine plan_still rfl (still_rdarr arr6 rfl rfl (fun w' hS => hnd.kept hS) rfl (by decide)) ?_
  simp only [Act.put, List.setIfInBounds_toArray, List.set_cons_zero, List.set_cons_succ]
  refine plan_still rfl (still_build2 (u := .agg (bvs [r0, r1]).toArray) (v := .agg (bvs [n0, n1, n2, n3, n4, n5]).toArray) (r := .agg (clockC 0 [r0, r1] [n0, n1, n2, n3, n4, n5] 0 0 0).toArray) rfl rfl rfl (fun w' => build_clock r0 r1 n0 n1 n2 n3 n4 n5 w')) ?_
  simp only [Act.put, List.setIfInBounds_toArray, List.set_cons_zero, List.set_cons_succ]
  refine plan_do ?_
  go_wp2_with (refine wp_box_blk clockArr hb1 rfl rfl rfl rfl hb1.size ?_)
  intro w2 b2 g2 s2 hb2
  clear s2
  have hs1 : w.heap.size ≤ w1.heap.size := hb1.size
  generalize w1.heap.size = gk at *
  refine ⟨hb2, ?_⟩
  refine plan_still (v := .pointer (some ⟨gk, 0, none⟩)) rfl (fun w' hS => rfl) ?_
  simp only [Act.put, List.setIfInBounds_toArray, List.set_cons_zero, List.set_cons_succ]
  refine plan_nil ?_
  go_wp2_with fail
  go_loopw [13, 37] (fun v i wr => ∃ k : Nat, k ≤ n ∧ i = .int .i64 k ∧ (∃ t0, Blk wr gk (clockC t0 [r0, r1] [n0, n1, n2, n3, n4, n5] (ltAt ts k) (csAt r0 r1 ts k) 0) 79) ∧ Below w.heap.size w wr ∧
      ∃ vals, wr.ownsRow w.heap.size 22 1 v vals.length vals ∧ Elems wr w.heap.size 5 vals (v6s r0 r1 [n0, n1, n2, n3, n4, n5] ts k) ∧ CapOk vals) (fun _ i _ => n - (intOf i).toNat)
  case atStart => exact ⟨0, Nat.zero_le _, rfl, ⟨0, b2.kept ((Below.refl _ _).alloc (Nat.le_refl _) _)⟩, hb2.alloc hb2.size _, [], World.ownsRow_lit w2 #[] 0 hb2.size (by unfold maxLen; omega) rfl, Elems.nil _ _ _, CapOk.nil⟩
  case round =>
    obtain ⟨k, hk, rfl, ⟨t0, hq⟩, hbw, vals, hown, hel, hcap⟩ := hrel
    by_cases hlt : k < n
    · have hTk := hT.kept hbw
      obtain ⟨bt, ot, rfl, hct⟩ := hTk.2.2.resolve_left (by intro h; have := HN.out; simp [h] at this; omega)
      have hc := hct k (by rw [HN.out]; exact hlt)
      have hzk : zs.getD k 0 = ((ts.getD k 0 : Nat) : Int) := by
        rw [HZ.out]
        have : k < ts.length := by rw [HLen.out]; exact hlt
        simp [this]
      rw [hzk] at hc
      have htk := getD_le ts HTS.out k
      have HST := Lib.hid (fun w1 h => clockStep gk 0 k ts r0 r1 n0 n1 n2 n3 n4 n5 w1 HTS.out h)
      have hst := stampOf_lt _ htk
      have hcs : csAt r0 r1 ts (k + 1) < 65536 := by have := sAt_lt r0 r1 ts (k + 1); simp only [csAt]; split <;> omega
      have hcq : csAt r0 r1 ts (k + 1) / 256 / 64 = 2 := by have := sAt_lt r0 r1 ts (k + 1); simp only [csAt]; split <;> omega
      clear hct hzk hTk
      go_wp2_with (refine wp_store_cell (i := 0) rfl rfl (by kernel_rfl) rfl rfl rfl hq (by rw [clock_len _ _ _ _ _ _ rfl rfl]; decide) ?_)
      intro w3 b3 g3 s3
      clear s3
      rw [clock_set0] at b3
      have hbw3 := hbw.grown g3 hbw.size (by rintro j ⟨⟩; exact hs1)
      go_wp2_with (refine wp_alloc_blk uuArr hbw3 rfl rfl rfl hbw3.size ?_)
      intro w4 b4 g4 s4 hb4
      clear s4
      have k4 := b3.grown g4 (by simp)
      have l3 : w.heap.size ≤ w3.heap.size := hbw3.size
      have q34 : gk < w3.heap.size := b3.lt
      have G4 : wr.grownBy w4 (some gk) := grown_trans g3 (grown_none g4 _)
      have hqr := hq.lt
      have hr3 : wr.heap.size ≤ w3.heap.size := g3.size
      generalize w3.heap.size = q3 at *
      have LW := Lib.hid (v6L_length (stampOf (ts.getD k 0)) (csAt r0 r1 ts (k + 1)) [n0, n1, n2, n3, n4, n5] rfl)
      have LV := Lib.hid (show (bvs (v6L (stampOf (ts.getD k 0)) (csAt r0 r1 ts (k + 1)) [n0, n1, n2, n3, n4, n5])).length = 16 by rw [bvs_length, v6L_length _ _ _ rfl])
      have HVS := Lib.hid (v6s_succ r0 r1 [n0, n1, n2, n3, n4, n5] ts k)
      go_wp2_with (first | (go_at_call 36; refine (newV6_ok gk (stampOf (ts.getD k 0)) (csAt r0 r1 ts (k + 1)) [n0, n1, n2, n3, n4, n5] _ _ _ _ k4 rfl rfl hst hcs hcq HST.out).mono ?_; rintro e6 w6 ⟨rfl, k6, g6⟩; have b46 := b4.grown g6 (by intro e; have := Option.some.inj e; omega); have hbw6 := hb4.grown g6 hb4.size (by rintro j ⟨⟩; exact hs1)) | (refine wp_store_blk uuArr hbw6 rfl rfl rfl rfl b46 l3 rfl LV.out (bvs_one _) ?_))
      intro w7 b7 g7 s7 hb7
      clear s7
      have G7 : wr.grownBy w7 (some gk) := grown_new (grown_trans G4 g6) g7 hr3
      have k7 := k6.grown g7 (by intro e; have := Option.some.inj e; omega)
      have hown7 := hown.kept G7 (.inr (fun e => own_ne hown hq (by decide) e.symm))
      have hel7 := hel.grownB hq (by decide) G7
      clear b46 hown hel G4 G7 g7 g3 g4 g6 k6 k4
      go_wp2_with (first | (refine wp_load_blk uuArr rfl rfl rfl b7 LV.out ?_) | (go_at_call 31; refine (bytesOf_ok _ _ LW.out).mono ?_; rintro e w8 ⟨v8, rfl, o8, hb8⟩; have hown8 := own_kept hown7 hb8; have hel8 := hel7.kept hb8; obtain ⟨g8, cap8, more8, rfl, B8, hg8, hc8⟩ := o8.blkC LW.out (by decide)) | (at_builtin; refine wp_append_one rfl rfl Try.underlying38 infoL rfl rfl rfl rfl rfl hown8 (by have := hel8.1; rw [v6s_length] at this; omega) (by have := hel8.1; rw [v6s_length] at this; omega) (Nat.le_trans hb7.size hb8.size) ?_))
      intro v' w10 hown10 hg10
      have k10 := (k7.kept hb8).grown hg10 (own_ne hown8 (k7.kept hb8) (by decide))
      have hel10 := (hel8.grown hown8 (by decide) hg10).snoc (l := v6L (stampOf (ts.getD k 0)) (csAt r0 r1 ts (k + 1)) [n0, n1, n2, n3, n4, n5]) (cap := cap8) (more := more8) (Nat.le_trans hb7.size hg8) (by rw [LW.out]; decide) (B8.grown hg10 (own_ne hown8 B8 (by decide)))
      rw [LW.out, ← HVS.out] at hel10
      have hbw10 := (hb7.trans (hb8.mono hb7.size)).grown hg10 (Nat.le_trans hb7.size hb8.size) (fun j hj => (hown8.lt j hj).1)
      clear hown8 hel8 hel7 hown7 k7 B8 hg10 hb7 hb8 o8
      go_wp2
      go_roundw
      case rel => exact ⟨k + 1, by omega, by go_num, ⟨_, k10⟩, hbw10, _, by simpa using hown10, hel10, hcap.snoc hc8⟩
      case measure => simp [intOf]; omega
    · obtain rfl : k = n := by omega
      go_wp2
      exact ret_tmp2 rfl rfl rfl rfl ⟨_, vals, rfl, hown, hel, hcap, hbw⟩
end Go.Proofs.Ytbnkbgbgdolihaa
