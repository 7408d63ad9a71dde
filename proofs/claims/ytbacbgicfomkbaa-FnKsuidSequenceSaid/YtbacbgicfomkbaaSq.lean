/- Contracts over sequences: Bounds, and the thin package's KsuidSequence. -/
import Derived.Test.YtbacbgicfomkbaaKs
import Derived.Test.YtbacbgicfomkbaaDraw
namespace Go.Proofs.Ytbacbgicfomkbaa
open Go.RowKit

set_option maxRecDepth 100000 in
theorem bounds_ok (x : List UInt8) (n gs : Nat) (t : TypeId) (w : World) (hx : x.length = 20) (hn : n ≤ 65535) (hg : Blk w gs (seqC x n) t) :
    Calls Try.prog 39 #[.pointer (some ⟨gs, 0, none⟩)] w fun e w' => e = .returned (.tuple #[.agg (bvs (x.take 18 ++ be 2 n)).toArray, .agg (bvs (x.take 18 ++ be 2 65535)).toArray]) ∧ Below w.heap.size w w' := by
  have hb := Below.refl w.heap.size w
  have lt := hg.lt
  have HX := Lib.hid hx
  have L20 := Lib.hid (show (bvs x).length = 20 by rw [bvs_length, hx])
  have L2 := Lib.hid (show ∀ m, (bvs (x.take 18 ++ be 2 m)).length = 20 by intro m; simp [bvs_length, be_length, hx])
  have HC := Lib.hid (seqC_count x n hx)
  clear hx
  go_enter Try.func39, Try.ntmps39
  go_wp2_with (refine wp_alloc_blk ksArr hb rfl rfl rfl (Nat.le_refl _) ?_)
  intro w1 b1 g1 s1 hb1
  go_wp2_with (refine wp_alloc_blk ksArr hb1 rfl rfl s1 (by omega) ?_)
  intro w2 b2 g2 s2 hb2
  have q2 := hg.kept hb2
  have b1' := b1.grown g2 (by simp)
  have c2 : w2.cell? ⟨gs, 20, none⟩ = some (.int .u32 n) := by rw [q2.cell]; exact HC.out
  go_wp2_with fail
  refine region_plan (fun w' => Below w2.heap.size w2 w') [(0, 0), (1, 0), (2, 0), (3, 0), (4, 0), (5, 0), (7, 0), (8, 0), (9, 0), (10, 0), (6, 1), (11, 1), (12, 2), (13, 2)] rfl (by kernel_rfl) (by kernel_rfl) rfl
    (by intro c a d v w h; cases d <;> exact h) (fun _ _ h => h) ?_
  intro w3 hw3 hb3
  simp only [planOps, List.filterMap_cons, List.filterMap_nil, List.getElem?_cons_succ, List.getElem?_cons_zero, Option.map_some]
  repeat (first | (refine plan_still rfl (still_part ksArr rfl rfl (fun w' hS => q2.kept hS) (seqC_seed x n HX.out) L20.out) ?_) | (refine plan_still (v := ?_) rfl (fun w' hS => ?_) ?_; rotate_left; (focus (go_simp; first | done | with_reducible rfl))); simp only [Act.put, List.setIfInBounds_toArray, List.set_cons_zero, List.set_cons_succ])
  have hb3' := hb2.trans (hb3.mono (by omega))
  refine plan_do ?_
  go_wp2_with (go_at_call 55; refine (withSeq_ok _ _ _ HX.out).mono ?_)
  rintro e w4 ⟨rfl, hb4⟩
  go_wp2
  have hb24 := hb3.trans (hb4.mono hb3.size)
  refine ⟨hb24, plan_do ?_⟩
  go_wp2_with (go_at_call 55; refine (withSeq_ok _ 65535 _ HX.out).mono ?_)
  rintro e w5 ⟨rfl, hb5⟩
  go_wp2
  have hb25 := hb24.trans (hb5.mono hb24.size)
  refine ⟨hb25, plan_last ?_⟩
  have b5 := b1'.kept hb25
  have b5' := b2.kept hb25
  have hbw := hb2.trans (hb25.mono (by omega))
  go_wp2_with (refine wp_store_blk ksArr hbw rfl rfl rfl rfl b5 (Nat.le_refl _) rfl (L2.out _) (bvs_one _) ?_)
  intro w6 b6 g6 s6 hb6
  go_wp2
  refine plan_last ?_
  have b6' := b5'.grown g6 (by simp)
  go_wp2_with (refine wp_store_blk ksArr hb6 rfl rfl rfl rfl b6' (by omega) rfl (L2.out _) (bvs_one _) ?_)
  intro w7 b7 g7 s7 hb7
  have b7' := b6.grown g7 (by simp)
  go_wp2
  refine plan_nil ?_
  go_wp2
  exact ret_cell_cell ksArr ksArr rfl rfl rfl rfl b7' (L2.out _) b7 (L2.out _) ⟨rfl, hb7⟩

set_option maxRecDepth 100000 in
theorem bounds_end (x : List UInt8) (n gs : Nat) (t : TypeId) (w : World) (hx : x.length = 20) (hn : 65535 < n) (hg : Blk w gs (seqC x n) t) :
    Calls Try.prog 39 #[.pointer (some ⟨gs, 0, none⟩)] w fun e w' => e = .returned (.tuple #[.agg (bvs (x.take 18 ++ be 2 65535)).toArray, .agg (bvs (x.take 18 ++ be 2 65535)).toArray]) ∧ Below w.heap.size w w' := by
  have hb := Below.refl w.heap.size w
  have lt := hg.lt
  have HX := Lib.hid hx
  have L20 := Lib.hid (show (bvs x).length = 20 by rw [bvs_length, hx])
  have L2 := Lib.hid (show ∀ m, (bvs (x.take 18 ++ be 2 m)).length = 20 by intro m; simp [bvs_length, be_length, hx])
  have HC := Lib.hid (seqC_count x n hx)
  clear hx
  go_enter Try.func39, Try.ntmps39
  go_wp2_with (refine wp_alloc_blk ksArr hb rfl rfl rfl (Nat.le_refl _) ?_)
  intro w1 b1 g1 s1 hb1
  go_wp2_with (refine wp_alloc_blk ksArr hb1 rfl rfl s1 (by omega) ?_)
  intro w2 b2 g2 s2 hb2
  have q2 := hg.kept hb2
  have b1' := b1.grown g2 (by simp)
  have c2 : w2.cell? ⟨gs, 20, none⟩ = some (.int .u32 n) := by rw [q2.cell]; exact HC.out
  go_wp2_with fail
  refine region_plan (fun w' => Below w2.heap.size w2 w') [(0, 0), (1, 0), (2, 0), (3, 0), (4, 0), (5, 0), (7, 0), (8, 0), (9, 0), (10, 0), (6, 1), (11, 1), (12, 2), (13, 2)] rfl (by kernel_rfl) (by kernel_rfl) rfl
    (by intro c a d v w h; cases d <;> exact h) (fun _ _ h => h) ?_
  intro w3 hw3 hb3
  simp only [planOps, List.filterMap_cons, List.filterMap_nil, List.getElem?_cons_succ, List.getElem?_cons_zero, Option.map_some]
  repeat (first | (refine plan_still rfl (still_part ksArr rfl rfl (fun w' hS => q2.kept hS) (seqC_seed x n HX.out) L20.out) ?_) | (refine plan_still (v := ?_) rfl (fun w' hS => ?_) ?_; rotate_left; (focus (go_simp; first | done | with_reducible rfl))); simp only [Act.put, List.setIfInBounds_toArray, List.set_cons_zero, List.set_cons_succ])
  have hb3' := hb2.trans (hb3.mono (by omega))
  refine plan_do ?_
  go_wp2_with (go_at_call 55; refine (withSeq_ok _ 65535 _ HX.out).mono ?_)
  rintro e w4 ⟨rfl, hb4⟩
  go_wp2
  have hb24 := hb3.trans (hb4.mono hb3.size)
  refine ⟨hb24, plan_do ?_⟩
  go_wp2_with (go_at_call 55; refine (withSeq_ok _ 65535 _ HX.out).mono ?_)
  rintro e w5 ⟨rfl, hb5⟩
  go_wp2
  have hb25 := hb24.trans (hb5.mono hb24.size)
  refine ⟨hb25, plan_last ?_⟩
  have b5 := b1'.kept hb25
  have b5' := b2.kept hb25
  have hbw := hb2.trans (hb25.mono (by omega))
  go_wp2_with (refine wp_store_blk ksArr hbw rfl rfl rfl rfl b5 (Nat.le_refl _) rfl (L2.out _) (bvs_one _) ?_)
  intro w6 b6 g6 s6 hb6
  go_wp2
  refine plan_last ?_
  have b6' := b5'.grown g6 (by simp)
  go_wp2_with (refine wp_store_blk ksArr hb6 rfl rfl rfl rfl b6' (by omega) rfl (L2.out _) (bvs_one _) ?_)
  intro w7 b7 g7 s7 hb7
  have b7' := b6.grown g7 (by simp)
  go_wp2
  refine plan_nil ?_
  go_wp2
  exact ret_cell_cell ksArr ksArr rfl rfl rfl rfl b7' (L2.out _) b7 (L2.out _) ⟨rfl, hb7⟩

/-- The KSUID of a sequence at a place. -/
def seqAt (x : List UInt8) (i : Nat) : List UInt8 := x.take 18 ++ be 2 i
theorem seqAt_length (x : List UInt8) (i : Nat) (hx : x.length = 20) : (seqAt x i).length = 20 := by simp [seqAt, be_length, hx]
/-- What the thin package keeps of a sequence. -/
def seqOut (x : List UInt8) (many k : Nat) : List (List UInt8) := ((List.range k).filter fun i => i + 1 ≤ 40 ∨ many < i + 1 + 5).map (seqAt x)
theorem seqOut_yes (x : List UInt8) (many k : Nat) (h : k + 1 ≤ 40 ∨ many < k + 1 + 5) : seqOut x many (k + 1) = seqOut x many k ++ [seqAt x k] := by
  rw [seqOut, List.range_succ, List.filter_append, List.map_append, seqOut, List.filter_cons_of_pos (by simpa using h)]
  rfl
theorem seqOut_no (x : List UInt8) (many k : Nat) (h : ¬ (k + 1 ≤ 40 ∨ many < k + 1 + 5)) : seqOut x many (k + 1) = seqOut x many k := by
  rw [seqOut, List.range_succ, List.filter_append, List.map_append, seqOut, List.filter_cons_of_neg (by simpa using h)]
  simp
theorem seqOut_le (x : List UInt8) (many k : Nat) : (seqOut x many k).length ≤ k := by
  unfold seqOut
  rw [List.length_map]
  exact Nat.le_trans (List.length_filter_le _ _) (by simp)

theorem seqC_one (x : List UInt8) (n : Nat) : ∀ u ∈ seqC x n, u.oneCell' = true := by
  intro u hu
  simp only [seqC, List.mem_append, List.mem_singleton] at hu
  rcases hu with hu | rfl
  · exact bvs_one x u hu
  · rfl
def Z21 : List Value := Z20 ++ [.int .u32 0]
theorem sqArr : Arr Try.prog 65 21 Z21 where
  und := ⟨_, Try.underlying65, rfl⟩
  size := by kernel_rfl
  zero := fun w => by kernel_rfl
  len := rfl
theorem info22 : (Try.prog.info? 22).map (fun i => (i.zero, i.size, i.bytes)) = some (some (.slice none 0 0), 1, 24) := by kernel_rfl

set_option maxHeartbeats 2000000 in
set_option maxRecDepth 100000 in
theorem ksuidSequence_ok (a1 : Option Addr) (x : List UInt8) (c1 many : Nat) (w : World) (h1 : Rd w a1 x) (hx : x.length = 20) (hm : many ≤ 100000) :
    Calls Try.prog 13 #[.slice a1 20 c1, .int .i64 many] w fun e w' => ∃ a cap gl gh, e = .returned (.tuple #[.slice a (seqOut x many (min many 65536)).length cap, .slice (some ⟨gl, 0, none⟩) 20 20, .slice (some ⟨gh, 0, none⟩) 20 20, .int .i64 (min many 65536 : Nat)]) ∧
      RdL w' a (seqOut x many (min many 65536)) ∧ Blk w' gl (bvs (seqAt x (min (min many 65536) 65535))) 59 ∧ Blk w' gh (bvs (seqAt x 65535)) 59 ∧ Below w.heap.size w w' := by
  have hb := Below.refl w.heap.size w
  obtain ⟨i0, hi, hz0, hz1, hz2⟩ := info_parts info22
  have I := Lib.hid (And.intro hi (And.intro hz0 (And.intro hz1 hz2)))
  clear hi hz0 hz1 hz2
  have HX := Lib.hid hx
  have L20 := Lib.hid (show (bvs x).length = 20 by rw [bvs_length, hx])
  have HB := Lib.hid (show splice Z21 0 (bvs x) = seqC x 0 by simp [splice, Z21, Z20, seqC, bvs_length, hx])
  clear hx
  go_enter Try.func13, Try.ntmps13
  go_wp2_with (go_at_call 36; refine (fromBytes_ok _ _ _ _ h1 HX.out).mono ?_)
  rintro e w1 ⟨rfl, hb1⟩
  go_wp2_with (refine wp_alloc_blk ksArr hb1 rfl rfl rfl hb1.size ?_)
  intro w2 b2 g2 s2 hb2
  go_wp2_with (refine wp_store_blk ksArr hb2 rfl rfl rfl rfl b2 hb1.size rfl L20.out (bvs_one _) ?_)
  intro w3 b3 g3 s3 hb3
  have ls1 := hb1.size
  go_wp2_with (first | (refine wp_load_blk ksArr rfl rfl rfl b3 L20.out ?_) | (refine wp_build_part sqArr rfl rfl Try.underlying65 rfl (by kernel_rfl) (by kernel_rfl) rfl L20.out (by decide) ?_) | (refine wp_alloc_blk sqArr hb3 rfl rfl s3 (by omega) ?_))
  intro w4 b4 g4 s4 hb4
  have b3' := b3.grown g4 (by simp)
  go_wp2_with (refine wp_store_blk sqArr hb4 rfl rfl rfl rfl b4 (by omega) rfl (by rw [HB.out]; exact seqC_length _ _ HX.out) (by rw [HB.out]; exact seqC_one _ _) ?_)
  intro w5 q5 g5 s5 hb5
  rw [HB.out] at q5
  have lB : w.heap.size ≤ w1.heap.size + 1 := by omega
  generalize hgs : w1.heap.size + 1 = gs at *
  have HG := Lib.hid hgs
  have S5 := Lib.hid s5
  clear b2 g2 s2 hb2 b3 g3 s3 hb3 b4 g4 s4 hb4 b3' g5 hgs s5 ls1
  go_wp2
  go_loopw [11, 12, 28] (fun v gv i wr => ∃ k : Nat, k ≤ many ∧ k ≤ 65536 ∧ i = .int .i64 k ∧ gv = .int .i64 k ∧ Blk wr gs (seqC x k) 65 ∧ Below w.heap.size w wr ∧
      ∃ vals, wr.ownsRow w.heap.size 22 1 v vals.length vals ∧ Elems wr w.heap.size 59 vals (seqOut x many k)) (fun _ _ i _ => many - (intOf i).toNat)
  case atStart => exact ⟨0, Nat.zero_le _, Nat.zero_le _, rfl, rfl, q5.kept ((Below.refl _ _).alloc (Nat.le_refl _) _), hb5.alloc (by have := hb5.size; omega) _, [], World.ownsRow_lit w5 #[] 0 hb5.size (by unfold maxLen; omega) rfl, Elems.nil _ _ _⟩
  case round =>
    obtain ⟨k, hk1, hk2, rfl, rfl, hq, hbw, vals, hown, hel⟩ := hrel
    have hlt := hq.lt
    by_cases hc : k < many ∧ k ≤ 65535
    · obtain ⟨hkm, hk3⟩ := hc
      go_wp2_with (go_at_call 37; refine (seqNext_ok x k gs _ _ HX.out hk3 hq).mono ?_)
      rintro e w6 ⟨rfl, q6, g6⟩
      have hbw6 := hbw.grown g6 hbw.size (by rintro j ⟨⟩; exact lB)
      have hown6 := hown.kept g6 (.inr (fun e => own_ne hown hq (by decide) e.symm))
      have hel6 := hel.grownB hq (by decide) g6
      clear hq hbw hown hel hlt
      have l6 := hbw6.size
      go_wp2_with (refine wp_alloc_blk ksArr hbw6 rfl rfl rfl hbw6.size ?_)
      intro w7 b7 g7 s7 hb7
      go_wp2_with (refine wp_store_blk ksArr hb7 rfl rfl rfl rfl b7 l6 rfl (by rw [bvs_length]; exact seqAt_length x k HX.out) (bvs_one _) ?_)
      intro w8 b8 g8 s8 hb8
      have b68 := (below_grown g7).grown g8 (by omega) (by rintro j ⟨⟩; exact Nat.le_refl _)
      have q8 := q6.kept b68
      have hown8 := own_kept hown6 b68
      have hel8 := hel6.kept b68
      clear q6 hown6 hel6 b68 b7 g7 g8 hb7 hbw6
      have S8 := Lib.hid s8
      clear s7 s8
      by_cases hp : k + 1 ≤ 40 ∨ many < k + 1 + 5
      · have HE := Lib.hid (seqOut_yes x many k hp)
        by_cases h40 : k + 1 ≤ 40
        all_goals
          go_wp2_with (first | (refine wp_load_blk ksArr rfl rfl rfl b8 (by rw [bvs_length]; exact seqAt_length x k HX.out) ?_) | (go_at_call 38; refine (bytes_ok (seqAt x k) _ (seqAt_length x k HX.out)).mono ?_; rintro e w9 ⟨rfl, b9, hb9, s9⟩; have hown9 := own_kept hown8 hb9; clear s9) | (at_builtin; refine wp_append_one rfl rfl Try.underlying23 info22 rfl rfl rfl rfl rfl hown9 (by have := hel8.1; have := seqOut_le x many k; omega) (by have := hel8.1; have := seqOut_le x many k; omega) (Nat.le_trans hb8.size hb9.size) ?_))
          intro v' w10 hown10 hg10
          have q10 := (q8.kept hb9).grown hg10 (own_ne hown9 (q8.kept hb9) (by decide))
          have hel10 := ((hel8.kept hb9).grown hown9 (by decide) hg10).snoc (cap := 20) (more := []) (Nat.le_trans hb8.size (Nat.le_refl _)) (by rw [seqAt_length x k HX.out]; omega) (by rw [List.append_nil]; exact b9.grown hg10 (own_ne hown9 b9 (by decide)))
          rw [seqAt_length x k HX.out, ← HE.out] at hel10
          have hbw10 := (hb8.trans (hb9.mono hb8.size)).grown hg10 (Nat.le_trans hb8.size hb9.size) (fun j hj => (hown9.lt j hj).1)
          clear hown9 hown8 hel8 q8 b9 hg10 HE b8 hb8 hb9
          go_wp2
          go_roundw
          case rel => exact ⟨k + 1, by omega, by omega, by go_num, by go_num, q10, hbw10, _, by simpa using hown10, hel10⟩
          case measure => simp [intOf]; omega
      · have HE := Lib.hid (seqOut_no x many k hp)
        have h40 : ¬ k + 1 ≤ 40 := by omega
        have hm5 : ¬ many < k + 1 + 5 := by omega
        clear hp
        go_wp2
        go_roundw
        case rel => exact ⟨k + 1, by omega, by omega, by go_num, by go_num, q8, hb8, vals, hown8, by rw [HE.out]; exact hel8⟩
        case measure => simp [intOf]; omega
    · have hk : k = min many 65536 := by omega
      have HK := Lib.hid hk
      clear hk
      by_cases hkm : k < many
      · have h3 : 65535 < k := by omega
        go_wp2_with (go_at_call 37; refine (seqNext_end x k gs _ _ HX.out h3 hq).mono ?_)
        rintro e w6 ⟨⟨aE, rfl⟩, hb6⟩
        have hbw6 := hbw.trans (hb6.mono hbw.size)
        have q6 := hq.kept hb6
        have hown6 := own_kept hown hb6
        have hel6 := hel.kept hb6
        go_wp2_with (refine wp_alloc_blk ksArr hbw6 rfl rfl rfl hbw6.size ?_)
        intro w7 b7 g7 s7 hb7
        go_wp2_with (refine wp_store_blk ksArr hb7 rfl rfl rfl (cs := Z20) rfl b7 hbw6.size rfl rfl (by decide) ?_)
        intro w8 b8 g8 s8 hb8
        have b68 := (below_grown g7).grown g8 (by omega) (by rintro j ⟨⟩; exact Nat.le_refl _)
        have q8 := q6.kept b68
        have hown8 := own_kept hown6 b68
        have hel8 := hel6.kept b68
        have BK := h3
        have MIN : min k 65535 = 65535 := by omega
        have MIN := Lib.hid MIN
        clear hq hbw hown hel hlt hb6 hbw6 q6 hown6 hel6 b7 g7 s7 hb7 b8 g8 s8 b68
        go_wp2_with (go_at_call 39; refine (bounds_end x k gs _ _ HX.out BK q8).mono ?_)
        rintro e w11 ⟨rfl, hb11⟩
        have hbw11 := hb8.trans (hb11.mono hb8.size)
        have hown11 := own_kept hown8 hb11
        have hel11 := hel8.kept hb11
        have l11 := hbw11.size
        go_wp2_with (refine wp_alloc_blk ksArr hbw11 rfl rfl rfl hbw11.size ?_)
        intro w12 b12 g12 s12 hb12
        go_wp2_with (refine wp_alloc_blk ksArr hb12 rfl rfl s12 (by omega) ?_)
        intro w13 b13 g13 s13 hb13
        have b12' := b12.grown g13 (by simp)
        go_wp2_with (refine wp_store_blk ksArr hb13 rfl rfl rfl rfl b12' (by omega) rfl (by rw [bvs_length]; exact seqAt_length x _ HX.out) (bvs_one _) ?_)
        intro w14 b14 g14 s14 hb14
        have b13' := b13.grown g14 (by simp)
        go_wp2_with (refine wp_store_blk ksArr hb14 rfl rfl rfl rfl b13' (by omega) rfl (by rw [bvs_length]; exact seqAt_length x _ HX.out) (bvs_one _) ?_)
        intro w15 b15 g15 s15 hb15
        have b14' := b14.grown g15 (by simp)
        have hb1115 := (((below_grown g12).trans ((below_grown g13).mono (by omega))).grown g14 (by omega) (by rintro j ⟨⟩; exact Nat.le_refl _)).grown g15 (by omega) (by rintro j ⟨⟩; omega)
        have hown15 := own_kept hown11 hb1115
        have hel15 := hel11.kept hb1115
        clear b12 b12' b13 b13' b14 g12 g13 g14 g15 hb12 hb13 hb14 hb1115 hown11 hel11 s12 s13 s14
        go_wp2_with fail
        refine region_plan (fun w' => Below w15.heap.size w15 w') [(0, 0), (1, 0), (3, 0), (5, 0), (2, 1), (4, 1), (6, 0), (7, 0), (8, 0), (9, 0)] rfl (by kernel_rfl) (by kernel_rfl) rfl
          (by intro c a d v w h; cases d <;> exact h) (fun _ _ h => h) ?_
        intro w16 hw16 hb16
        clear hw16 s15
        simp only [planOps, List.filterMap_cons, List.filterMap_nil, List.getElem?_cons_succ, List.getElem?_cons_zero, Option.map_some]
        repeat (first | (refine plan_still rfl (still_blk ksArr rfl rfl (fun w' hS => b14'.kept hS) (by rw [bvs_length]; exact seqAt_length x _ HX.out)) ?_) | (refine plan_still rfl (still_blk ksArr rfl rfl (fun w' hS => b15.kept hS) (by rw [bvs_length]; exact seqAt_length x _ HX.out)) ?_) | (refine plan_still (v := ?_) rfl (fun w' hS => ?_) ?_; rotate_left; (focus (go_simp; first | done | with_reducible rfl))); simp only [Act.put, List.setIfInBounds_toArray, List.set_cons_zero, List.set_cons_succ])
        refine plan_do ?_
        go_wp2_with (go_at_call 38; refine (bytes_ok (seqAt x 65535) _ (seqAt_length x _ HX.out)).mono ?_)
        rintro e w17 ⟨rfl, b17, hb17, -⟩
        have hb1517 := hb16.trans (hb17.mono hb16.size)
        go_wp2
        refine ⟨hb1517, plan_do ?_⟩
        go_wp2_with (go_at_call 38; refine (bytes_ok (seqAt x 65535) _ (seqAt_length x _ HX.out)).mono ?_)
        rintro e w18 ⟨rfl, b18, hb18, -⟩
        have hb1518 := hb1517.trans (hb18.mono hb1517.size)
        have b17' := b17.kept hb18
        go_wp2
        refine ⟨hb1518, ?_⟩
        repeat (refine plan_still (v := ?_) rfl (fun w' hS => ?_) ?_; rotate_left; (focus (go_simp; first | done | with_reducible rfl)); simp only [Act.put, List.setIfInBounds_toArray, List.set_cons_zero, List.set_cons_succ])
        refine plan_nil ?_
        have hown18 := own_kept hown15 hb1518
        have hel18 := hel15.kept hb1518
        obtain ⟨ra, rc, hv, hrd⟩ := Elems.rdL hown18 hel18 (by have := seqOut_le x many k; omega)
        have hbw18 := hb15.trans (hb1518.mono hb15.size)
        go_wp2
        refine ret_tmp4 rfl rfl rfl rfl rfl rfl ?_
        rw [← HK.out]
        exact ⟨ra, rc, _, _, by rw [hv]; rfl, hrd, by rw [MIN.out]; exact b17', b18, hbw18⟩
      · by_cases BK : 65535 < k
        · have MIN : Hid (min k 65535 = 65535) := Nat.min_eq_right (by omega)
          have hkm' : k = many := by omega
          have HM := Lib.hid hkm'
          clear hkm'
          go_wp2_with (go_at_call 39; refine (bounds_end x k gs _ _ HX.out BK hq).mono ?_)
          rintro e w11 ⟨rfl, hb11⟩
          have hbw11 := hbw.trans (hb11.mono hbw.size)
          have hown11 := own_kept hown hb11
          have hel11 := hel.kept hb11
          have l11 := hbw11.size
          go_wp2_with (refine wp_alloc_blk ksArr hbw11 rfl rfl rfl hbw11.size ?_)
          intro w12 b12 g12 s12 hb12
          go_wp2_with (refine wp_alloc_blk ksArr hb12 rfl rfl s12 (by omega) ?_)
          intro w13 b13 g13 s13 hb13
          have b12' := b12.grown g13 (by simp)
          go_wp2_with (refine wp_store_blk ksArr hb13 rfl rfl rfl rfl b12' (by omega) rfl (by rw [bvs_length]; exact seqAt_length x _ HX.out) (bvs_one _) ?_)
          intro w14 b14 g14 s14 hb14
          have b13' := b13.grown g14 (by simp)
          go_wp2_with (refine wp_store_blk ksArr hb14 rfl rfl rfl rfl b13' (by omega) rfl (by rw [bvs_length]; exact seqAt_length x _ HX.out) (bvs_one _) ?_)
          intro w15 b15 g15 s15 hb15
          have b14' := b14.grown g15 (by simp)
          have hb1115 := (((below_grown g12).trans ((below_grown g13).mono (by omega))).grown g14 (by omega) (by rintro j ⟨⟩; exact Nat.le_refl _)).grown g15 (by omega) (by rintro j ⟨⟩; omega)
          have hown15 := own_kept hown11 hb1115
          have hel15 := hel11.kept hb1115
          clear b12 b12' b13 b13' b14 g12 g13 g14 g15 hb12 hb13 hb14 hb1115 hown11 hel11 s12 s13 s14
          go_wp2_with fail
          refine region_plan (fun w' => Below w15.heap.size w15 w') [(0, 0), (1, 0), (3, 0), (5, 0), (2, 1), (4, 1), (6, 0), (7, 0), (8, 0), (9, 0)] rfl (by kernel_rfl) (by kernel_rfl) rfl
            (by intro c a d v w h; cases d <;> exact h) (fun _ _ h => h) ?_
          intro w16 hw16 hb16
          clear hw16 s15
          simp only [planOps, List.filterMap_cons, List.filterMap_nil, List.getElem?_cons_succ, List.getElem?_cons_zero, Option.map_some]
          repeat (first | (refine plan_still rfl (still_blk ksArr rfl rfl (fun w' hS => b14'.kept hS) (by rw [bvs_length]; exact seqAt_length x _ HX.out)) ?_) | (refine plan_still rfl (still_blk ksArr rfl rfl (fun w' hS => b15.kept hS) (by rw [bvs_length]; exact seqAt_length x _ HX.out)) ?_) | (refine plan_still (v := ?_) rfl (fun w' hS => ?_) ?_; rotate_left; (focus (go_simp; first | done | with_reducible rfl))); simp only [Act.put, List.setIfInBounds_toArray, List.set_cons_zero, List.set_cons_succ])
          refine plan_do ?_
          go_wp2_with (go_at_call 38; refine (bytes_ok (seqAt x 65535) _ (seqAt_length x _ HX.out)).mono ?_)
          rintro e w17 ⟨rfl, b17, hb17, -⟩
          have hb1517 := hb16.trans (hb17.mono hb16.size)
          go_wp2
          refine ⟨hb1517, plan_do ?_⟩
          go_wp2_with (go_at_call 38; refine (bytes_ok (seqAt x 65535) _ (seqAt_length x _ HX.out)).mono ?_)
          rintro e w18 ⟨rfl, b18, hb18, -⟩
          have hb1518 := hb1517.trans (hb18.mono hb1517.size)
          have b17' := b17.kept hb18
          go_wp2
          refine ⟨hb1518, ?_⟩
          repeat (refine plan_still (v := ?_) rfl (fun w' hS => ?_) ?_; rotate_left; (focus (go_simp; first | done | with_reducible rfl)); simp only [Act.put, List.setIfInBounds_toArray, List.set_cons_zero, List.set_cons_succ])
          refine plan_nil ?_
          have hown18 := own_kept hown15 hb1518
          have hel18 := hel15.kept hb1518
          obtain ⟨ra, rc, hv, hrd⟩ := Elems.rdL hown18 hel18 (by have := seqOut_le x many k; omega)
          have hbw18 := hb15.trans (hb1518.mono hb15.size)
          go_wp2
          refine ret_tmp4 rfl rfl rfl rfl rfl rfl ?_
          rw [← HK.out]
          exact ⟨ra, rc, _, _, by rw [hv]; rfl, hrd, by rw [MIN.out]; exact b17', b18, hbw18⟩
        · have BK : k ≤ 65535 := by omega
          have MIN : Hid (min k 65535 = k) := Nat.min_eq_left (by omega)
          have hkm' : k = many := by omega
          have HM := Lib.hid hkm'
          clear hkm'
          go_wp2_with (go_at_call 39; refine (bounds_ok x k gs _ _ HX.out BK hq).mono ?_)
          rintro e w11 ⟨rfl, hb11⟩
          have hbw11 := hbw.trans (hb11.mono hbw.size)
          have hown11 := own_kept hown hb11
          have hel11 := hel.kept hb11
          have l11 := hbw11.size
          go_wp2_with (refine wp_alloc_blk ksArr hbw11 rfl rfl rfl hbw11.size ?_)
          intro w12 b12 g12 s12 hb12
          go_wp2_with (refine wp_alloc_blk ksArr hb12 rfl rfl s12 (by omega) ?_)
          intro w13 b13 g13 s13 hb13
          have b12' := b12.grown g13 (by simp)
          go_wp2_with (refine wp_store_blk ksArr hb13 rfl rfl rfl rfl b12' (by omega) rfl (by rw [bvs_length]; exact seqAt_length x _ HX.out) (bvs_one _) ?_)
          intro w14 b14 g14 s14 hb14
          have b13' := b13.grown g14 (by simp)
          go_wp2_with (refine wp_store_blk ksArr hb14 rfl rfl rfl rfl b13' (by omega) rfl (by rw [bvs_length]; exact seqAt_length x _ HX.out) (bvs_one _) ?_)
          intro w15 b15 g15 s15 hb15
          have b14' := b14.grown g15 (by simp)
          have hb1115 := (((below_grown g12).trans ((below_grown g13).mono (by omega))).grown g14 (by omega) (by rintro j ⟨⟩; exact Nat.le_refl _)).grown g15 (by omega) (by rintro j ⟨⟩; omega)
          have hown15 := own_kept hown11 hb1115
          have hel15 := hel11.kept hb1115
          clear b12 b12' b13 b13' b14 g12 g13 g14 g15 hb12 hb13 hb14 hb1115 hown11 hel11 s12 s13 s14
          go_wp2_with fail
          refine region_plan (fun w' => Below w15.heap.size w15 w') [(0, 0), (1, 0), (3, 0), (5, 0), (2, 1), (4, 1), (6, 0), (7, 0), (8, 0), (9, 0)] rfl (by kernel_rfl) (by kernel_rfl) rfl
            (by intro c a d v w h; cases d <;> exact h) (fun _ _ h => h) ?_
          intro w16 hw16 hb16
          clear hw16 s15
          simp only [planOps, List.filterMap_cons, List.filterMap_nil, List.getElem?_cons_succ, List.getElem?_cons_zero, Option.map_some]
          repeat (first | (refine plan_still rfl (still_blk ksArr rfl rfl (fun w' hS => b14'.kept hS) (by rw [bvs_length]; exact seqAt_length x _ HX.out)) ?_) | (refine plan_still rfl (still_blk ksArr rfl rfl (fun w' hS => b15.kept hS) (by rw [bvs_length]; exact seqAt_length x _ HX.out)) ?_) | (refine plan_still (v := ?_) rfl (fun w' hS => ?_) ?_; rotate_left; (focus (go_simp; first | done | with_reducible rfl))); simp only [Act.put, List.setIfInBounds_toArray, List.set_cons_zero, List.set_cons_succ])
          refine plan_do ?_
          go_wp2_with (go_at_call 38; refine (bytes_ok (seqAt x k) _ (seqAt_length x _ HX.out)).mono ?_)
          rintro e w17 ⟨rfl, b17, hb17, -⟩
          have hb1517 := hb16.trans (hb17.mono hb16.size)
          go_wp2
          refine ⟨hb1517, plan_do ?_⟩
          go_wp2_with (go_at_call 38; refine (bytes_ok (seqAt x 65535) _ (seqAt_length x _ HX.out)).mono ?_)
          rintro e w18 ⟨rfl, b18, hb18, -⟩
          have hb1518 := hb1517.trans (hb18.mono hb1517.size)
          have b17' := b17.kept hb18
          go_wp2
          refine ⟨hb1518, ?_⟩
          repeat (refine plan_still (v := ?_) rfl (fun w' hS => ?_) ?_; rotate_left; (focus (go_simp; first | done | with_reducible rfl)); simp only [Act.put, List.setIfInBounds_toArray, List.set_cons_zero, List.set_cons_succ])
          refine plan_nil ?_
          have hown18 := own_kept hown15 hb1518
          have hel18 := hel15.kept hb1518
          obtain ⟨ra, rc, hv, hrd⟩ := Elems.rdL hown18 hel18 (by have := seqOut_le x many k; omega)
          have hbw18 := hb15.trans (hb1518.mono hb15.size)
          go_wp2
          refine ret_tmp4 rfl rfl rfl rfl rfl rfl ?_
          rw [← HK.out]
          exact ⟨ra, rc, _, _, by rw [hv]; rfl, hrd, by rw [MIN.out]; exact b17', b18, hbw18⟩
end Go.Proofs.Ytbacbgicfomkbaa
