/- Contracts: the next KSUID. -/
import Derived.Test.YtbacbgicfomkbaaNextWalk
import Derived.ChangeKeysEq
namespace Go.Proofs.Ytbacbgicfomkbaa
open Go.RowKit
set_option linter.unusedVariables false
set_option maxRecDepth 100000 in
theorem eq_u128 (a b c d : Nat) (w : World) : (Op.equalIn 10000 77 (.agg (u128 a b).toArray) (.agg (u128 c d).toArray)).run Try.prog w = .ok (((a : Int) == c) && ((b : Int) == d)) w := by
  have hs : (Try.prog.info? 30).isSome = true := by kernel_rfl
  obtain ⟨i, hi⟩ := Option.isSome_iff_exists.1 hs
  have hc : Try.prog.cellsOf 30 = 1 := by kernel_rfl
  have hp : Try.prog.plainKey 30 = true := by kernel_rfl
  rw [run_equalIn_array w 9999 _ _ Try.underlying77 hi, hc]
  have e1 := run_part_plain (P := Try.prog) w hp (xs := (u128 a b).toArray) (off := 0) (v := .int .u64 a) rfl
  have e2 := run_part_plain (P := Try.prog) w hp (xs := (u128 a b).toArray) (off := 1) (v := .int .u64 b) rfl
  have e3 := run_part_plain (P := Try.prog) w hp (xs := (u128 c d).toArray) (off := 0) (v := .int .u64 c) rfl
  have e4 := run_part_plain (P := Try.prog) w hp (xs := (u128 c d).toArray) (off := 1) (v := .int .u64 d) rfl
  have q1 := run_equalIn_int (P := Try.prog) w 9998 30 .u64 .u64 (a : Int) (c : Int) Try.underlying30
  have q2 := run_equalIn_int (P := Try.prog) w 9998 30 .u64 .u64 (b : Int) (d : Int) Try.underlying30
  have hr : List.range 2 = [0, 1] := rfl
  rw [hr]
  simp only [Op.eqItems, Sem.run_bind, Nat.zero_mul, Nat.one_mul, e1, e3, q1, Result.andThen_ok]
  cases hx : ((a : Int) == c) <;> simp [Sem.run_bind, Result.andThen, e2, e4, q2] <;> (cases hy : ((b : Int) == d) <;> simp <;> simpa using hy)
set_option maxRecDepth 100000 in
set_option maxHeartbeats 1600000 in
theorem knext_ok (x : List UInt8) (w : World) (hx : x.length = 20) (T H L l h t : Nat) (hT : num (x.take 4) = T) (hH : num ((x.drop 4).take 8) = H) (hL : num (x.drop 12) = L)
    (hl : (L + 1) % 18446744073709551616 = l) (hh : (H + 0 + (L + 1) / 18446744073709551616) % 18446744073709551616 = h) (ht : t = if l = 0 ∧ h = 0 then (T + 1) % 4294967296 else T) :
    Calls Try.prog 44 #[.agg (bvs x).toArray] w fun e w' => e = .returned (.agg (bvs (be 4 t ++ (be 8 h ++ be 8 l))).toArray) ∧ Below w.heap.size w w' := by
  have hb := Below.refl w.heap.size w
  obtain ⟨-, hT1, hH1, hL1⟩ := num_parts x hx
  rw [hT] at hT1
  rw [hH] at hH1
  rw [hL] at hL1
  have HX := Lib.hid hx
  have L20x := Lib.hid (show (bvs x).length = 20 by rw [bvs_length, hx])
  have L20 := Lib.hid (show (bvs (be 4 t ++ (be 8 h ++ be 8 l))).length = 20 by simp [bvs_length, be_length])
  have hadd := add128_ok L H 1 0
  rw [hl, hh] at hadd
  have HADD := Lib.hid hadd
  have HT := Lib.hid hT
  have HH := Lib.hid hH
  have HL := Lib.hid hL
  have LT : l < 18446744073709551616 := by omega
  have HTl : h < 18446744073709551616 := by omega
  have tT : t < 4294967296 := by split at ht <;> omega
  have Ht := Lib.hid ht
  clear hx hadd hT hH hL hl hh ht
  go_enter Try.func44, Try.ntmps44
  go_wp2_with (refine wp_box_blk ksArr hb rfl rfl rfl rfl (Nat.le_refl _) ?_)
  intro w1 b1 g1 s1 hb1
  clear s1
  go_wp2_with (refine wp_alloc_blk ksArr hb1 rfl rfl rfl hb1.size ?_)
  intro w2 b2 g2 s2 hb2
  clear s2
  have b12 := b1.grown g2 (by simp)
  have hs1 : w.heap.size ≤ w1.heap.size := hb1.size
  generalize w1.heap.size = q1 at *
  go_wp2_with (go_at_call 59; refine (makeUint128_ok 0 0 _).mono ?_)
  rintro e w3 ⟨rfl, hb3⟩
  have b13 := b12.kept hb3
  have b23 := b2.kept hb3
  have hb3' := hb2.trans (hb3.mono hb2.size)
  go_wp2_with (refine wp_alloc_blk u128Arr hb3' rfl rfl rfl hb3'.size ?_)
  intro w4 b4 g4 s4 hb4
  clear s4
  have b14 := b13.grown g4 (by simp)
  have b24 := b23.grown g4 (by simp)
  have hs3 : w.heap.size ≤ w3.heap.size := hb3'.size
  have hq1 : q1 < w3.heap.size := b23.lt
  have hq0 : w.heap.size < w3.heap.size := b13.lt
  generalize w3.heap.size = q3 at *
  go_wp2_with (refine wp_store_blk u128Arr hb4 rfl rfl rfl (cs := u128 0 0) rfl b4 hs3 rfl rfl (u128_one _ _) ?_)
  intro w5 b5 g5 s5 hb5
  clear s5
  have b15 := b14.grown g5 (by intro e; have := Option.some.inj e; omega)
  have b25 := b24.grown g5 (by intro e; have := Option.some.inj e; omega)
  go_wp2_with (first | (refine wp_load_blk ksArr rfl rfl rfl b15 L20x.out ?_) | (go_at_call 51; refine (timestamp_ok x _ HX.out).mono ?_))
  rintro e w6 ⟨rfl, hb6⟩
  rw [HT.out]
  have b16 := b15.kept hb6
  have b26 := b25.kept hb6
  have b56 := b5.kept hb6
  have hb6' := hb5.trans (hb6.mono hb5.size)
  go_wp2_with (first | (refine wp_load_blk ksArr rfl rfl rfl b16 L20x.out ?_) | (go_at_call 60; refine (uint128Payload_ok x _ HX.out).mono ?_))
  rintro e w7 ⟨rfl, hb7⟩
  rw [HH.out, HL.out]
  have b27 := b26.kept hb7
  have b57 := b56.kept hb7
  have hb7' := hb6'.trans (hb7.mono hb6'.size)
  go_wp2_with (refine wp_alloc_blk u128Arr hb7' rfl rfl rfl hb7'.size ?_)
  intro w8 b8 g8 s8 hb8
  clear s8
  have b28 := b27.grown g8 (by simp)
  have b58 := b57.grown g8 (by simp)
  have hs7 : w.heap.size ≤ w7.heap.size := hb7'.size
  have hq17 : q1 < w7.heap.size := b27.lt
  have hq37 : q3 < w7.heap.size := b57.lt
  generalize w7.heap.size = q7 at *
  go_wp2_with (refine wp_store_blk u128Arr hb8 rfl rfl rfl rfl b8 hs7 rfl rfl (u128_one _ _) ?_)
  intro w9 b9 g9 s9 hb9
  clear s9
  have b29 := b28.grown g9 (by intro e; have := Option.some.inj e; omega)
  have b59 := b58.grown g9 (by intro e; have := Option.some.inj e; omega)
  clear b1 b2 b12 b13 b14 b15 b16 b23 b24 b25 b26 b27 b28 b4 b5 b56 b57 b58 b8 g1 g2 g4 g5 g8 g9 hb1 hb2 hb3 hb3' hb4 hb5 hb6 hb6' hb7 hb7' hb8
  go_upto_region 4 with fail
  go_cut [6] from 12 to 15 (fun p wx => ∃ gp, p = .pointer (some ⟨gp, 0, none⟩) ∧ Blk wx gp (u128 l h) 77 ∧ Blk wx q1 Z20 59 ∧ Blk wx q3 (u128 0 0) 77 ∧ Below w.heap.size w wx)
  · skip
    refine region_tree (fun w' => Below w9.heap.size w9 w') (.op 0 0 (.fork 1 3 (.fork 2 3 (.op 3 1 (.op 4 2 .nil)) (.op 2 2 (.op 4 2 .nil))) (.op 1 1 (.op 2 2 (.op 4 2 .nil))))) rfl (by kernel_rfl) (by kernel_rfl) (by decide) (by intro c a d v w h; cases d <;> exact h) (fun _ _ h => h) ?_
    intro wa hpW hba
    clear hpW
    simp only [Tree.opers, List.getElem?_cons_succ, List.getElem?_cons_zero]
    have b9a := b9.kept hba
    repeat (first | (refine tree_still rfl (still_blk u128Arr rfl rfl (fun w' hS => b9.kept hS) rfl) ?_) | (refine tree_skip rfl ?_) | (refine tree_still (v := ?_) rfl (fun w' hS => ?_) ?_; rotate_left; (focus (go_simp; first | done | with_reducible rfl))); simp only [Act.put, List.setIfInBounds_toArray, List.set_cons_zero, List.set_cons_succ])
    refine tree_fork ?_ ?_
    · go_wp2_with (go_at_call 59; refine (makeUint128_ok 0 1 _).mono ?_)
      rintro e v1 ⟨rfl, hv1'⟩
      have hv1 := hba.trans (hv1'.mono hba.size)
      go_wp2
      refine ⟨hv1, ?_⟩
      refine tree_fork ?_ ?_
      · go_wp2_with (go_at_call 61; refine (HADD.out _ hL1 hH1 (by decide) (by decide)).mono ?_)
        rintro e v2 ⟨rfl, hv2'⟩
        have hv2 := hv1.trans (hv2'.mono hv1.size)
        go_wp2
        refine ⟨hv2, ?_⟩
        refine tree_do ?_
        go_wp2_with (refine wp_alloc_blk u128Arr hv2 rfl rfl rfl hv2.size ?_)
        intro v3 k3 g3 s3 hv3
        have hgb := hv2.size
        go_wp2
        refine ⟨hv3, ?_⟩
        refine tree_last ?_
        go_wp2_with (refine wp_store_blk u128Arr hv3 rfl rfl rfl rfl k3 hgb rfl rfl (u128_one _ _) ?_)
        intro v4 k4 g4 s4 hv4
        go_wp2
        refine tree_nil ?_
        go_wp2_with fail
        go_meet
        exact ⟨_, rfl, k4, b29.kept hv4, b59.kept hv4, hb9.trans (hv4.mono hb9.size)⟩
      · go_wp2_with (refine wp_alloc_blk u128Arr hv1 rfl rfl rfl hv1.size ?_)
        intro v2 k2 g2 s2 hv2
        have hgb := hv1.size
        go_wp2
        refine ⟨hv2, ?_⟩
        refine tree_last ?_
        go_wp2_with (go_at_call 61; refine (HADD.out _ hL1 hH1 (by decide) (by decide)).mono ?_)
        rintro e v3 ⟨rfl, hv3'⟩
        have hv3 := hv2.trans (hv3'.mono hv2.size)
        have k3 := k2.kept hv3'
        go_wp2
        refine tree_last ?_
        go_wp2_with (refine wp_store_blk u128Arr hv3 rfl rfl rfl rfl k3 hgb rfl rfl (u128_one _ _) ?_)
        intro v4 k4 g4 s4 hv4
        go_wp2
        refine tree_nil ?_
        go_wp2_with fail
        go_meet
        exact ⟨_, rfl, k4, b29.kept hv4, b59.kept hv4, hb9.trans (hv4.mono hb9.size)⟩
    · go_wp2_with (refine wp_alloc_blk u128Arr hba rfl rfl rfl hba.size ?_)
      intro v1 k1 g1 s1 hv1
      have hgb := hba.size
      go_wp2
      refine ⟨hv1, ?_⟩
      refine tree_do ?_
      go_wp2_with (go_at_call 59; refine (makeUint128_ok 0 1 _).mono ?_)
      rintro e v2 ⟨rfl, hv2'⟩
      have hv2 := hv1.trans (hv2'.mono hv1.size)
      have k2 := k1.kept hv2'
      go_wp2
      refine ⟨hv2, ?_⟩
      refine tree_last ?_
      go_wp2_with (go_at_call 61; refine (HADD.out _ hL1 hH1 (by decide) (by decide)).mono ?_)
      rintro e v3 ⟨rfl, hv3'⟩
      have hv3 := hv2.trans (hv3'.mono hv2.size)
      have k3 := k2.kept hv3'
      go_wp2
      refine tree_last ?_
      go_wp2_with (refine wp_store_blk u128Arr hv3 rfl rfl rfl rfl k3 hgb rfl rfl (u128_one _ _) ?_)
      intro v4 k4 g4 s4 hv4
      go_wp2
      refine tree_nil ?_
      go_wp2_with fail
      go_meet
      exact ⟨_, rfl, k4, b29.kept hv4, b59.kept hv4, hb9.trans (hv4.mono hb9.size)⟩
  case rest =>
    obtain ⟨gp, rfl, bv, bt, bz, hbw⟩ := hcut
    have hsq1 : w.heap.size ≤ q1 := by omega
    have hq : ∀ w, (Op.equalIn 10000 77 (.agg (u128 l h).toArray) (.agg (u128 0 0).toArray)).run Try.prog w = .ok (decide (l = 0 ∧ h = 0)) w := by
      intro w
      rw [eq_u128]
      congr 1
      by_cases h1 : l = 0 <;> by_cases h2 : h = 0 <;> simp [h1, h2]
    by_cases hz : l = 0 ∧ h = 0
    · have htt : t = (T + 1) % 4294967296 := by rw [Ht.out, if_pos hz]
      have hw : IntKind.u32.wrap ((T : Int) + 1) = (t : Int) := by rw [IntKind.wrap_u32, htt]; omega
      rw [decide_eq_true hz] at hq
      clear htt hz
      go_wp2_with (first | (refine wp_load_blk u128Arr rfl rfl rfl bv rfl ?_) | (refine wp_load_blk u128Arr rfl rfl rfl bz rfl ?_) | (go_at_call 62; refine (u128ksuid_ok l h t _ LT HTl tT).mono ?_))
      rintro e wd ⟨rfl, hbd⟩
      have btd := bt.kept hbd
      have hbw' := hbw.trans (hbd.mono hbw.size)
      go_wp2_with (refine wp_store_blk ksArr hbw' rfl rfl rfl rfl btd hsq1 rfl L20.out (bvs_one _) ?_)
      intro wf bf gf sf hbf
      clear sf
      go_wp2
      exact ret_cell ksArr rfl rfl rfl bf L20.out ⟨rfl, hbf⟩
    · have htt : T = t := by rw [Ht.out, if_neg hz]
      rw [decide_eq_false hz] at hq
      subst htt
      clear hz
      go_wp2_with (first | (refine wp_load_blk u128Arr rfl rfl rfl bv rfl ?_) | (refine wp_load_blk u128Arr rfl rfl rfl bz rfl ?_) | (go_at_call 62; refine (u128ksuid_ok l h T _ LT HTl tT).mono ?_))
      rintro e wd ⟨rfl, hbd⟩
      have btd := bt.kept hbd
      have hbw' := hbw.trans (hbd.mono hbw.size)
      go_wp2_with (refine wp_store_blk ksArr hbw' rfl rfl rfl rfl btd hsq1 rfl L20.out (bvs_one _) ?_)
      intro wf bf gf sf hbf
      clear sf
      go_wp2
      exact ret_cell ksArr rfl rfl rfl bf L20.out ⟨rfl, hbf⟩
end Go.Proofs.Ytbacbgicfomkbaa
