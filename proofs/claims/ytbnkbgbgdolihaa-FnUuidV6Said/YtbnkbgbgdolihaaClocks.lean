/- Contracts: the reference's Clocks: the stamps and the sequences of a clock. -/
import Derived.Test.YtbnkbgbgdolihaaV1Spec
namespace Go.Proofs.Ytbnkbgbgdolihaa
open Go.RowKit
set_option linter.unusedVariables false
def stampVals (ts : List Nat) (k : Nat) : List Value := (List.range k).map fun j => .int .u64 (stampOf (ts.getD j 0) : Nat)
def seqVals (r0 r1 : UInt8) (ts : List Nat) (k : Nat) : List Value := (List.range k).map fun j => .int .i64 (sAt r0 r1 ts (j + 1) : Nat)
theorem stampVals_succ (ts : List Nat) (k : Nat) : stampVals ts (k + 1) = stampVals ts k ++ [.int .u64 (stampOf (ts.getD k 0) : Nat)] := by simp [stampVals, List.range_succ]
theorem seqVals_succ (r0 r1 : UInt8) (ts : List Nat) (k : Nat) : seqVals r0 r1 ts (k + 1) = seqVals r0 r1 ts k ++ [.int .i64 (sAt r0 r1 ts (k + 1) : Nat)] := by simp [seqVals, List.range_succ]
theorem stampVals_length (ts : List Nat) (k : Nat) : (stampVals ts k).length = k := by simp [stampVals]
theorem seqVals_length (r0 r1 : UInt8) (ts : List Nat) (k : Nat) : (seqVals r0 r1 ts k).length = k := by simp [seqVals]
/-- Two slices of the call's own, of different elements, lie apart. -/
theorem own_other {w : World} {b b' e e' n n' : Nat} {v v' : Value} {xs xs' : List Value} (h : w.ownsRow b e 1 v n xs) (h' : w.ownsRow b' e' 1 v' n' xs') (ht : e ≠ e') : v'.ownBlock = none ∨ v'.ownBlock ≠ v.ownBlock := by
  rcases h'.2 with ⟨rfl, _⟩ | ⟨g', cap', cur', rfl, _, hh', _⟩
  · exact .inl rfl
  · right
    intro hg
    rcases h.2 with ⟨rfl, _⟩ | ⟨g, cap, cur, rfl, _, hh, _⟩
    · simp [Value.ownBlock] at hg
    · simp only [Value.ownBlock, Option.some.injEq] at hg
      subst hg
      rw [hh] at hh'
      simp only [Option.some.injEq, Obj.cells.injEq] at hh'
      exact ht hh'.2.1
/-- An element of a slice of the call's own. -/
theorem own_cell {w : World} {b e n : Nat} {v : Value} {xs : List Value} (h : w.ownsRow b e 1 v n xs) (hn : xs.length = n) (i : Nat) (hi : i < n) : ∃ g cap, v = .slice (some ⟨g, 0, none⟩) n cap ∧ n ≤ cap ∧ w.cell? ⟨g, i, none⟩ = xs[i]? := by
  rcases h.2 with ⟨rfl, h0⟩ | ⟨g, cap, cur, rfl, _, hh, hnc, _, hs, htake⟩
  · omega
  · refine ⟨g, cap, rfl, hnc, ?_⟩
    rw [cell_of_row w g _ cur e (0, 0) hh, ← htake, List.getElem?_take, if_pos (by omega)]
    simp
set_option maxRecDepth 100000 in
theorem uuidTime1_ok (a1 : Option Addr) (x : List UInt8) (c1 : Nat) (w : World) (h1 : Rd w a1 x) (hx : x.length = 16) (h7 : B x 6 / 16 = 1) :
    Calls Try.prog 23 #[.slice a1 16 c1] w fun e w' => e = .returned (.tuple #[.int .i64 ((num (x.take 4) + num ((x.drop 4).take 2) * 4294967296 + num ((x.drop 6).take 2) % 4096 * 281474976710656 : Nat) : Int), .int .i64 ((num ((x.drop 8).take 2) % 16384 : Nat) : Int), .bool true]) ∧ Below w.heap.size w w' := by
  have L := Lib.hid hx
  have L16 := Lib.hid (show (bvs x).length = 16 by rw [bvs_length, hx])
  have H7 := Lib.hid h7
  clear hx h7
  go_enter Try.func23, Try.ntmps23
  go_wp2_with (go_at_call 26; refine (uuFromBytes_ok a1 x c1 _ h1 L.out).mono ?_)
  rintro e w2 ⟨rfl, hb2⟩
  go_wp2_with (refine wp_alloc_blk uuArr hb2 rfl rfl rfl hb2.size ?_)
  intro w3 b3 g3 s3 hb3
  clear s3
  go_wp2_with (refine wp_store_blk uuArr hb3 rfl rfl rfl rfl b3 hb2.size rfl L16.out (bvs_one _) ?_)
  intro w4 b4 g4 s4 hb4
  clear s4
  go_wp2_with fail
  refine region_plan (fun w' => Below w4.heap.size w4 w') [(0, 0), (2, 0), (1, 1), (3, 1), (4, 0), (5, 0), (6, 0)] rfl (by kernel_rfl) (by kernel_rfl) rfl (by intro c a d v w h; cases d <;> exact h) (fun _ _ h => h) ?_
  intro w5 hpW hb5
  clear hpW
  simp only [planOps, List.filterMap_cons, List.filterMap_nil, List.getElem?_cons_succ, List.getElem?_cons_zero, Option.map_some]
  repeat (first | (refine plan_still rfl (still_blk uuArr rfl rfl (fun w' hS => b4.kept hS) L16.out) ?_) | (refine plan_skip rfl ?_) | (refine plan_still (v := ?_) rfl (fun w' hS => ?_) ?_; rotate_left; (focus (go_simp; first | done | with_reducible rfl))); simp only [Act.put, List.setIfInBounds_toArray, List.set_cons_zero, List.set_cons_succ])
  refine plan_do ?_
  go_wp2_with (go_at_call 39; refine (utime1_ok x _ L.out H7.out).mono ?_)
  rintro e w6 ⟨rfl, hb6⟩
  have hb46 := hb5.trans (hb6.mono hb5.size)
  go_wp2
  refine ⟨hb46, ?_⟩
  repeat (first | (refine plan_still rfl (still_blk uuArr rfl rfl (fun w' hS => b4.kept hS) L16.out) ?_) | (refine plan_skip rfl ?_) | (refine plan_still (v := ?_) rfl (fun w' hS => ?_) ?_; rotate_left; (focus (go_simp; first | done | with_reducible rfl))); simp only [Act.put, List.setIfInBounds_toArray, List.set_cons_zero, List.set_cons_succ])
  refine plan_do ?_
  go_wp2_with (go_at_call 40; refine (useq_ok x _ L.out).mono ?_)
  rintro e w7 ⟨rfl, hb7⟩
  have hb47 := hb46.trans (hb7.mono hb46.size)
  go_wp2
  refine ⟨hb47, ?_⟩
  repeat (first | (refine plan_skip rfl ?_) | (refine plan_still (v := ?_) rfl (fun w' hS => ?_) ?_; rotate_left; (focus (go_simp; first | done | with_reducible rfl))); simp only [Act.put, List.setIfInBounds_toArray, List.set_cons_zero, List.set_cons_succ])
  refine plan_nil ?_
  go_wp2
  exact ret_tmp3 rfl rfl rfl rfl rfl ⟨rfl, hb4.trans (hb47.mono hb4.size)⟩
theorem infoU : (Try.prog.info? 51).map (fun i => (i.zero, i.size, i.bytes)) = some (some (.int .u64 0), 1, 8) := by kernel_rfl
theorem infoI : (Try.prog.info? 3).map (fun i => (i.zero, i.size, i.bytes)) = some (some (.int .i64 0), 1, 8) := by kernel_rfl
set_option maxRecDepth 100000 in
set_option maxHeartbeats 4000000 in
theorem clocks_ok (at_ ar : Option Addr) (zs : List Int) (ts : List Nat) (r0 r1 : UInt8) (n ct cr : Nat) (w : World) (hT : RdI .i64 w at_ zs) (hn : zs.length = n) (hz : zs = ts.map Int.ofNat) (hts : ∀ t ∈ ts, t ≤ 4102444800000000000) (hn12 : n ≤ 12) (hr : Rd w ar [r0, r1]) :
    Calls Try.prog 22 #[.slice at_ n ct, .slice ar 2 cr] w fun e w' => ∃ v1 v2, e = .returned (.tuple #[v1, v2]) ∧ w'.ownsRow w.heap.size 51 1 v1 (stampVals ts n).length (stampVals ts n) ∧ w'.ownsRow w.heap.size 3 1 v2 (seqVals r0 r1 ts n).length (seqVals r0 r1 ts n) ∧ Below w.heap.size w w' := by
  have hb := Below.refl w.heap.size w
  obtain ⟨br, or_, rfl, hcr⟩ := hr.2.resolve_left (by simp)
  have cr0 := hcr 0 (by simp)
  have cr1 := hcr 1 (by simp)
  have HN := Lib.hid hn
  have HZ := Lib.hid hz
  have HTS := Lib.hid hts
  have HLen := Lib.hid (show ts.length = n by rw [← hn, hz]; simp)
  have hr0 := r0.toNat_lt
  have hr1 := r1.toNat_lt
  have e0 : B [r0, r1] 0 = r0.toNat := rfl
  have e1 : B [r0, r1] 1 = r1.toNat := rfl
  rw [e0, Nat.add_zero] at cr0
  rw [e1] at cr1
  obtain ⟨a, ha⟩ : ∃ v, r0.toNat = v := ⟨_, rfl⟩
  obtain ⟨b, hb'⟩ : ∃ v, r1.toNat = v := ⟨_, rfl⟩
  obtain ⟨a6, ha6⟩ : ∃ v, a % 64 = v := ⟨_, rfl⟩
  have hs0 : seq0 r0 r1 = a6 * 256 + b := by unfold seq0; rw [ha, hb']; omega
  rw [ha] at cr0
  rw [hb'] at cr1
  have f1 : bits .and .u8 (a : Int) 63 = (a6 : Int) := by
    have := u8_and_nat a 63 (by omega) (by decide)
    rw [and63 a (by omega), ha6] at this
    exact this
  have f2 : bits .or .i64 ((a6 : Int) * 256) (b : Int) = ((a6 * 256 + b : Nat) : Int) := by
    have := i64_or_nat (a6 * 256) b (by omega) (by omega)
    rw [nat_join 8 (a6 * 256) b (by omega) (by omega)] at this
    rw [← this]; simp
  have g1 : IntKind.i64.wrap (a6 : Int) = (a6 : Int) := by rw [IntKind.wrap_i64]; omega
  have g2 : IntKind.i64.wrap ((a6 : Int) * 256) = (a6 : Int) * 256 := by rw [IntKind.wrap_i64]; omega
  have g3 : IntKind.i64.wrap (b : Int) = (b : Int) := by rw [IntKind.wrap_i64]; omega
  rw [← hs0] at f2
  have HS0 := Lib.hid (seq0_lt r0 r1)
  generalize hq0 : seq0 r0 r1 = s0 at f2
  have HQ0 := Lib.hid hq0
  clear hn hz hts ha hb' ha6 hs0 hcr e0 e1 hr0 hr1 hq0
  go_enter Try.func22, Try.ntmps22
  have hbA1 := hb.alloc (Nat.le_refl _) (.cells #[] 51)
  have hbA := hbA1.alloc hbA1.size (.cells #[] 3)
  have dr0 := (hbA.cell (World.block_lt_of_cell? _ _ cr0)).trans cr0
  have dr1 := (hbA.cell (World.block_lt_of_cell? _ _ cr1)).trans cr1
  go_wp2
  go_quiet (fail)
  clear g1 g2 g3 f1 f2
  go_wp2
  go_loopw [6, 7, 8, 27] (fun v6 v7 sv i wr => ∃ k : Nat, k ≤ n ∧ i = .int .i64 k ∧ sv = .int .i64 (sAt r0 r1 ts k) ∧ wr.ownsRow w.heap.size 51 1 v6 (stampVals ts k).length (stampVals ts k) ∧ wr.ownsRow w.heap.size 3 1 v7 (seqVals r0 r1 ts k).length (seqVals r0 r1 ts k) ∧ Below w.heap.size w wr) (fun _ _ _ i _ => n - (intOf i).toNat)
  case atStart =>
    have o1 : (w.alloc (.cells #[] 51)).ownsRow w.heap.size 51 1 (.slice (some ⟨w.heap.size, 0, none⟩) 0 0) 0 [] := World.ownsRow_lit w #[] 0 (Nat.le_refl _) (by unfold maxLen; omega) rfl
    have hb1 := hb.alloc (Nat.le_refl _) (.cells #[] 51)
    have hb2 := hb1.alloc hb1.size (.cells #[] 3)
    have o1' := own_kept o1 ((Below.refl _ _).alloc (Nat.le_refl _) (.cells #[] 3))
    have o2 : ((w.alloc (.cells #[] 51)).alloc (.cells #[] 3)).ownsRow w.heap.size 3 1 (.slice (some ⟨(w.alloc (.cells #[] 51)).heap.size, 0, none⟩) 0 0) 0 [] := World.ownsRow_lit _ #[] 0 hb1.size (by unfold maxLen; omega) rfl
    have o2' : ((w.alloc (.cells #[] 51)).alloc (.cells #[] 3)).ownsRow w.heap.size 3 1 (.slice (some ⟨w.heap.size + 1, 0, none⟩) 0 0) 0 [] := by simpa using o2
    exact ⟨0, Nat.zero_le _, rfl, by rw [← HQ0.out]; rfl, o1', o2', below_drewN hb2 _⟩
  case round =>
    obtain ⟨k, hk, rfl, rfl, ho1, ho2, hbw⟩ := hrel
    by_cases hlt : k < n
    · have hTk := hT.kept hbw
      obtain ⟨bt, ot, rfl, hct⟩ := hTk.2.2.resolve_left (by intro h; have := HN.out; simp [h] at this; omega)
      have hc := hct k (by rw [HN.out]; exact hlt)
      have hzk : zs.getD k 0 = ((ts.getD k 0 : Nat) : Int) := by
        rw [HZ.out]
        have : k < ts.length := by rw [HLen.out]; exact hlt
        simp [this]
      rw [hzk] at hc
      have htk := getD_le ts HTS.out k
      obtain ⟨t, ht⟩ : ∃ v, ts.getD k 0 = v := ⟨_, rfl⟩
      rw [ht] at hc htk
      obtain ⟨d, hd⟩ : ∃ v, t / 100 = v := ⟨_, rfl⟩
      obtain ⟨now, hnow⟩ : ∃ v, stampOf t = v := ⟨_, rfl⟩
      have hnd : now = d + 122192928000000000 := by rw [← hnow, stampOf, hd]
      have E1 : (t : Int) / 100 = (d : Int) := by omega
      have E2 : (d : Int) + 122192928000000000 = (now : Int) := by omega
      have hdl : d ≤ 41024448000000000 := by omega
      have hnl : now < 1000000000000000000 := by omega
      have hst : stampOf (ts.getD k 0) = now := by rw [ht]; exact hnow
      have hsl := sAt_lt r0 r1 ts k
      have HSS : Hid (stampVals ts (k + 1) = stampVals ts k ++ [.int .u64 (now : Int)]) := Lib.hid (by rw [stampVals_succ, hst])
      have HSV := Lib.hid (seqVals_succ r0 r1 ts k)
      have hsn : sAt r0 r1 ts (k + 1) = if k = 0 then seq0 r0 r1 else seqNext (ltAt ts k) now (sAt r0 r1 ts k) := by rw [← hst]; rfl
      clear hct hzk hTk hd hnow hnd ht hst
      by_cases h0 : k = 0
      · subst h0
        simp only [Nat.add_zero] at hc
        have hs1 : sAt r0 r1 ts (0 + 1) = sAt r0 r1 ts 0 := by rw [hsn, if_pos rfl]; rfl
        have HSW : Hid (seqVals r0 r1 ts (0 + 1) = seqVals r0 r1 ts 0 ++ [.int .i64 (sAt r0 r1 ts 0 : Nat)]) := Lib.hid (by rw [HSV.out, hs1])
        have HS1 := Lib.hid hs1
        clear hsn hs1
        generalize sAt r0 r1 ts 0 = s at *
        go_wp2_with (at_builtin; refine wp_append_one rfl rfl Try.underlying44 infoU rfl rfl rfl rfl rfl ho1 (by rw [stampVals_length]; omega) (by rw [stampVals_length]; omega) hbw.size ?_)
        intro y6 w2 p1 q1
        have p2 := ho2.kept q1 (own_other ho1 ho2 (by decide))
        have hb2 := hbw.grown q1 hbw.size (fun j hj => (ho1.lt j hj).1)
        rw [← HSS.out] at p1
        go_wp2_with (at_builtin; refine wp_append_one rfl rfl Try.underlying45 infoI rfl rfl rfl rfl rfl p2 (by rw [seqVals_length]; omega) (by rw [seqVals_length]; omega) hb2.size ?_)
        intro y7 w3 s1 s2
        have t1 := p1.kept s2 (own_other p2 p1 (by decide))
        have hb3 := hb2.grown s2 hb2.size (fun j hj => (p2.lt j hj).1)
        rw [← HSW.out] at s1
        go_wp2
        go_roundw
        case rel => exact ⟨0 + 1, by omega, by go_num, by rw [HS1.out], by simpa only [stampVals_length] using t1, by simpa only [seqVals_length] using s1, hb3⟩
        case measure => simp [intOf]; omega
      · rw [if_neg h0] at hsn
        obtain ⟨gc, cc, hv6, hcc, hcell⟩ := own_cell ho1 rfl (k - 1) (by rw [stampVals_length]; omega)
        rw [stampVals_length] at hv6 hcc
        have hcv : (stampVals ts k)[k - 1]? = some (.int .u64 (ltAt ts k : Nat)) := by
          have e : k = (k - 1) + 1 := by omega
          have e2 : ltAt ts k = stampOf (ts.getD (k - 1) 0) := by rw [e]; rfl
          rw [e2]
          simp [stampVals, show k - 1 < k by omega]
        rw [hcv] at hcell
        have hltl := ltAt_lt ts HTS.out k
        obtain ⟨lt, hlte⟩ : ∃ v, ltAt ts k = v := ⟨_, rfl⟩
        rw [hlte] at hcell hltl hsn
        obtain ⟨s, hs⟩ : ∃ v, sAt r0 r1 ts k = v := ⟨_, rfl⟩
        rw [hs] at hsn hsl
        rw [hs]
        subst hv6
        have e1 : IntKind.i64.wrap ((k : Int) - 1) = ((k - 1 : Nat) : Int) := by rw [IntKind.wrap_i64]; omega
        have i0 : ((k - 1 : Nat) : Int) < (k : Int) := by omega
        by_cases hle : now ≤ lt
        · have hdec : decide (now ≤ lt) = true := decide_eq_true hle
          have hs1 : sAt r0 r1 ts (k + 1) = (s + 1) % 16384 := by rw [hsn, seqNext, if_pos hle]
          have hand : bits .and .i64 ((s : Int) + 1) 16383 = (((s + 1) % 16384 : Nat) : Int) := by
            have := i64_and_nat (s + 1) 16383 (by omega) (by decide)
            rw [show (s + 1) &&& 16383 = (s + 1) % 16384 from Nat.and_two_pow_sub_one_eq_mod _ 14] at this
            exact this
          obtain ⟨s', hs'⟩ : ∃ v, (s + 1) % 16384 = v := ⟨_, rfl⟩
          rw [hs'] at hand hs1
          have HSW : Hid (seqVals r0 r1 ts (k + 1) = seqVals r0 r1 ts k ++ [.int .i64 (s' : Nat)]) := Lib.hid (by rw [HSV.out, hs1])
          have HS1 := Lib.hid hs1
          clear hsn hs1 hs hs' hlte hcv hle
          go_wp2_with (at_builtin; refine wp_append_one rfl rfl Try.underlying44 infoU rfl rfl rfl rfl rfl ho1 (by rw [stampVals_length]; omega) (by rw [stampVals_length]; omega) hbw.size ?_)
          intro y6 w2 p1 q1
          have p2 := ho2.kept q1 (own_other ho1 ho2 (by decide))
          have hb2 := hbw.grown q1 hbw.size (fun j hj => (ho1.lt j hj).1)
          rw [← HSS.out] at p1
          go_wp2_with (at_builtin; refine wp_append_one rfl rfl Try.underlying45 infoI rfl rfl rfl rfl rfl p2 (by rw [seqVals_length]; omega) (by rw [seqVals_length]; omega) hb2.size ?_)
          intro y7 w3 s1 s2
          have t1 := p1.kept s2 (own_other p2 p1 (by decide))
          have hb3 := hb2.grown s2 hb2.size (fun j hj => (p2.lt j hj).1)
          rw [← HSW.out] at s1
          go_wp2
          go_roundw
          case rel => exact ⟨k + 1, by omega, by go_num, by rw [HS1.out], by simpa only [stampVals_length] using t1, by simpa only [seqVals_length] using s1, hb3⟩
          case measure => simp [intOf]; omega
        · have hdec : decide (now ≤ lt) = false := decide_eq_false hle
          have hs1 : sAt r0 r1 ts (k + 1) = s := by rw [hsn, seqNext, if_neg hle]
          have HSW : Hid (seqVals r0 r1 ts (k + 1) = seqVals r0 r1 ts k ++ [.int .i64 (s : Nat)]) := Lib.hid (by rw [HSV.out, hs1])
          have HS1 := Lib.hid hs1
          clear hsn hs1 hs hlte hcv hle
          go_wp2_with (at_builtin; refine wp_append_one rfl rfl Try.underlying44 infoU rfl rfl rfl rfl rfl ho1 (by rw [stampVals_length]; omega) (by rw [stampVals_length]; omega) hbw.size ?_)
          intro y6 w2 p1 q1
          have p2 := ho2.kept q1 (own_other ho1 ho2 (by decide))
          have hb2 := hbw.grown q1 hbw.size (fun j hj => (ho1.lt j hj).1)
          rw [← HSS.out] at p1
          go_wp2_with (at_builtin; refine wp_append_one rfl rfl Try.underlying45 infoI rfl rfl rfl rfl rfl p2 (by rw [seqVals_length]; omega) (by rw [seqVals_length]; omega) hb2.size ?_)
          intro y7 w3 s1 s2
          have t1 := p1.kept s2 (own_other p2 p1 (by decide))
          have hb3 := hb2.grown s2 hb2.size (fun j hj => (p2.lt j hj).1)
          rw [← HSW.out] at s1
          go_wp2
          go_roundw
          case rel => exact ⟨k + 1, by omega, by go_num, by rw [HS1.out], by simpa only [stampVals_length] using t1, by simpa only [seqVals_length] using s1, hb3⟩
          case measure => simp [intOf]; omega
    · obtain rfl : k = n := by omega
      go_wp2
      exact ret_tmp2 rfl rfl rfl rfl ⟨_, _, rfl, ho1, ho2, hbw⟩
end Go.Proofs.Ytbnkbgbgdolihaa
