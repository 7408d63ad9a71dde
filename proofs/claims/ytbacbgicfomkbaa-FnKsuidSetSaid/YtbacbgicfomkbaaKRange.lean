/- Contract of package ksuid's rangeLength. -/
import Derived.Test.YtbacbgicfomkbaaKDo
namespace Go.Proofs.Ytbacbgicfomkbaa
open Go.RowKit
set_option linter.unusedVariables false
set_option linter.unusedSimpArgs false
set_option maxRecDepth 100000 in
set_option maxHeartbeats 1000000 in
theorem rangeLength_ok (ks : List (List UInt8)) (x : List UInt8) (t v : Nat) (ad : Option Addr) (g off n cap : Nat) (cs : List Value) (tg : TypeId) (w : World) (hn : ks.length = n) (hn2 : n ≤ 1000) (h20 : ∀ z ∈ ks, z.length = 20) (hx : x.length = 20) (ht : tOf x = t) (hv : vOf x = v) (hasc : Asc (x :: ks))
    (had : 0 < n → ad = some ⟨g, off, none⟩) (BG : Blk w g cs tg) (hids : ∀ j, j < n → (cs.drop (off + j * 20)).take 20 = bvs (ks.getD j [])) :
    Calls Try.prog 80 #[.slice ad n cap, .int .u32 ((t : Nat) : Int), .agg (bvs x).toArray, .agg (uN (v)).toArray] w fun e w' => ∃ l : Nat, e = .returned (.tuple #[.int .i64 ((l : Nat) : Int), .int .i64 ((l : Nat) : Int)]) ∧ l ≤ n ∧ (∀ j, j < l → tOf (ks.getD j []) = t ∧ vOf (ks.getD j []) = v + 1 + j) ∧ Below w.heap.size w w' := by
  have hb := Below.refl w.heap.size w
  have Lx : (bvs x).length = 20 := by rw [bvs_length, hx]
  go_enter Try.func80, Try.ntmps80
  refine of_keeps 47 [(3, .agg (uN (v)).toArray), (2, .agg (bvs x).toArray), (1, .int .u32 ((t : Nat) : Int)), (0, .slice ad n cap)] ⟨by kernel_rfl, rfl, fun x hx => by simp at hx; rcases hx with rfl | rfl | rfl | rfl <;> rfl⟩ fun a hk => ?_
  refine wp_seq_k fun K0 hK0 => ?_
  refine wp_region_lit ?_
  obtain ⟨q6, hq6⟩ : ∃ q, q = w.heap.size := ⟨_, rfl⟩
  have : g < q6 := by rw [hq6]; exact BG.lt
  have hBq6 : w.heap.size ≤ q6 := by rw [hq6]; exact hb.size
  refine wp_box_blk ksArr hb rfl rfl (cs := bvs x) (hk.at (List.mem_cons_of_mem _ (List.mem_cons_self ..))) hq6.symm hBq6 ?_
  intro w1 B6 gg ss hb1
  clear ss hq6
  replace BG := BG.grown gg (by simp)
  clear gg
  refine keep_k (v := .pointer (some ⟨q6, 0, none⟩)) hk (by decide) (by repeat' (first | exact far_nil _ | refine far_cons (by decide) ?_)) ?_
  clear hk; intro a hk
  obtain ⟨q7, hq7⟩ : ∃ q, q = w1.heap.size := ⟨_, rfl⟩
  have : g < q7 := by rw [hq7]; exact BG.lt
  have : q6 < q7 := by rw [hq7]; exact B6.lt
  have hBq7 : w.heap.size ≤ q7 := by rw [hq7]; exact hb1.size
  refine wp_box_blk u128Arr hb1 rfl rfl (cs := uN v) (hk.at (List.mem_cons_of_mem _ (List.mem_cons_self ..))) hq7.symm hBq7 ?_
  intro w2 B7 gg ss hb2
  clear ss hq7
  replace BG := BG.grown gg (by simp)
  replace B6 := B6.grown gg (by simp)
  clear gg
  refine keep_k (v := .pointer (some ⟨q7, 0, none⟩)) hk (by decide) (by repeat' (first | exact far_nil _ | refine far_cons (by decide) ?_)) ?_
  clear hk; intro a hk
  refine list_k rfl rfl hk (by decide) (by repeat' (first | exact far_nil _ | refine far_cons (by decide) ?_)) (v := .int .i64 0) (do_assign rfl rfl) ?_
  clear hk; intro a hk
  refine list_k rfl rfl hk (by decide) (by repeat' (first | exact far_nil _ | refine far_cons (by decide) ?_)) (v := .int .i64 0) (do_assign rfl rfl) ?_
  clear hk; intro a hk
  refine hK0 _ _ ?_
  clear hK0
  have hk2 : Keeps 47 ([(9, .int .i64 0), (8, .int .i64 0), (7, .pointer (some ⟨q7, 0, none⟩)), (6, .pointer (some ⟨q6, 0, none⟩)), (1, .int .u32 ((t : Nat) : Int)), (0, .slice ad n cap)]) a := by
    refine ⟨hk.1, hk.2.1, fun x hx => hk.2.2 x ?_⟩
    rcases List.mem_cons.1 hx with rfl | hx
    · exact List.mem_cons_self ..
    rcases List.mem_cons.1 hx with rfl | hx
    · exact List.mem_cons_of_mem _ (List.mem_cons_self ..)
    rcases List.mem_cons.1 hx with rfl | hx
    · exact List.mem_cons_of_mem _ (List.mem_cons_of_mem _ (List.mem_cons_self ..))
    rcases List.mem_cons.1 hx with rfl | hx
    · exact List.mem_cons_of_mem _ (List.mem_cons_of_mem _ (List.mem_cons_of_mem _ (List.mem_cons_self ..)))
    rcases List.mem_cons.1 hx with rfl | hx
    · exact List.mem_cons_of_mem _ (List.mem_cons_of_mem _ (List.mem_cons_of_mem _ (List.mem_cons_of_mem _ (List.mem_cons_of_mem _ (List.mem_cons_of_mem _ (List.mem_cons_self ..))))))
    rcases List.mem_cons.1 hx with rfl | hx
    · exact List.mem_cons_of_mem _ (List.mem_cons_of_mem _ (List.mem_cons_of_mem _ (List.mem_cons_of_mem _ (List.mem_cons_of_mem _ (List.mem_cons_of_mem _ (List.mem_cons_of_mem _ (List.mem_cons_self ..)))))))
    cases hx
  clear hk
  have hk := hk2
  clear hk2
  refine wp_seq_k fun K0 hK0 => ?_
  refine wp_region_lit ?_
  refine wp_call rfl (do_call2 (u := .int .u64 0) (v := .int .u64 1) rfl rfl rfl (ent2_mk _ _)) (oneN_ok _) ?_
  rintro e w3 ⟨rfl, hbc⟩
  replace BG := BG.kept hbc
  replace B6 := B6.kept hbc
  replace B7 := B7.kept hbc
  have hb3 := hb2.trans (hbc.mono hb2.size)
  clear hbc
  refine ⟨_, rfl, ?_⟩
  refine keep_k (v := .agg (uN (1)).toArray) hk (by decide) (by repeat' (first | exact far_nil _ | refine far_cons (by decide) ?_)) ?_
  clear hk; intro a hk
  obtain ⟨q10, hq10⟩ : ∃ q, q = w3.heap.size := ⟨_, rfl⟩
  have : g < q10 := by rw [hq10]; exact BG.lt
  have : q6 < q10 := by rw [hq10]; exact B6.lt
  have : q7 < q10 := by rw [hq10]; exact B7.lt
  have hBq10 : w.heap.size ≤ q10 := by rw [hq10]; exact hb3.size
  refine wp_alloc_blk u128Arr hb3 rfl rfl hq10.symm hBq10 ?_
  intro w4 B10 gg ss hb4
  clear ss hq10
  replace BG := BG.grown gg (by simp)
  replace B6 := B6.grown gg (by simp)
  replace B7 := B7.grown gg (by simp)
  clear gg
  refine keep_k (v := .pointer (some ⟨q10, 0, none⟩)) hk (by decide) (by repeat' (first | exact far_nil _ | refine far_cons (by decide) ?_)) ?_
  clear hk; intro a hk
  refine wp_store_blk u128Arr hb4 rfl rfl (hk.at (List.mem_cons_self ..)) (cs := uN 1) (hk.at (List.mem_cons_of_mem _ (List.mem_cons_self ..))) B10 hBq10 rfl rfl (uN_one _) ?_
  intro w5 B10n gg ss hb5
  clear ss
  replace BG := BG.grown gg (by intro e; have := Option.some.inj e; omega)
  replace B6 := B6.grown gg (by intro e; have := Option.some.inj e; omega)
  replace B7 := B7.grown gg (by intro e; have := Option.some.inj e; omega)
  clear gg B10
  have B10 := B10n
  clear B10n
  refine keep_0 hk ?_
  clear hk; intro a hk
  refine hK0 _ _ ?_
  clear hK0
  have hk2 : Keeps 47 ([(10, .pointer (some ⟨q10, 0, none⟩)), (9, .int .i64 0), (8, .int .i64 0), (7, .pointer (some ⟨q7, 0, none⟩)), (6, .pointer (some ⟨q6, 0, none⟩)), (1, .int .u32 ((t : Nat) : Int)), (0, .slice ad n cap)]) a := by
    refine ⟨hk.1, hk.2.1, fun x hx => hk.2.2 x ?_⟩
    rcases List.mem_cons.1 hx with rfl | hx
    · exact List.mem_cons_self ..
    rcases List.mem_cons.1 hx with rfl | hx
    · exact List.mem_cons_of_mem _ (List.mem_cons_of_mem _ (List.mem_cons_self ..))
    rcases List.mem_cons.1 hx with rfl | hx
    · exact List.mem_cons_of_mem _ (List.mem_cons_of_mem _ (List.mem_cons_of_mem _ (List.mem_cons_self ..)))
    rcases List.mem_cons.1 hx with rfl | hx
    · exact List.mem_cons_of_mem _ (List.mem_cons_of_mem _ (List.mem_cons_of_mem _ (List.mem_cons_of_mem _ (List.mem_cons_self ..))))
    rcases List.mem_cons.1 hx with rfl | hx
    · exact List.mem_cons_of_mem _ (List.mem_cons_of_mem _ (List.mem_cons_of_mem _ (List.mem_cons_of_mem _ (List.mem_cons_of_mem _ (List.mem_cons_self ..)))))
    rcases List.mem_cons.1 hx with rfl | hx
    · exact List.mem_cons_of_mem _ (List.mem_cons_of_mem _ (List.mem_cons_of_mem _ (List.mem_cons_of_mem _ (List.mem_cons_of_mem _ (List.mem_cons_of_mem _ (List.mem_cons_self ..))))))
    rcases List.mem_cons.1 hx with rfl | hx
    · exact List.mem_cons_of_mem _ (List.mem_cons_of_mem _ (List.mem_cons_of_mem _ (List.mem_cons_of_mem _ (List.mem_cons_of_mem _ (List.mem_cons_of_mem _ (List.mem_cons_of_mem _ (List.mem_cons_self ..)))))))
    cases hx
  clear hk
  have hk := hk2
  clear hk2
  refine wp_seq_k fun K1 hK1 => ?_
  refine wp_seq_k fun K2 hK2 => ?_
  refine wp_region_lit ?_
  refine list_k rfl rfl hk (by decide) (by repeat' (first | exact far_nil _ | refine far_cons (by decide) ?_)) (v := .slice ad n cap) (do_move rfl (hk.at (List.mem_cons_of_mem _ (List.mem_cons_of_mem _ (List.mem_cons_of_mem _ (List.mem_cons_of_mem _ (List.mem_cons_of_mem _ (List.mem_cons_of_mem _ (List.mem_cons_self ..))))))))) ?_
  clear hk; intro a hk
  refine list_k rfl rfl hk (by decide) (by repeat' (first | exact far_nil _ | refine far_cons (by decide) ?_)) (v := .int .i64 ((n : Nat) : Int)) (do_lenS rfl (hk.at (List.mem_cons_self ..)) Try.underlying70) ?_
  clear hk; intro a hk
  refine list_k rfl rfl hk (by decide) (by repeat' (first | exact far_nil _ | refine far_cons (by decide) ?_)) (v := .int .i64 0) (do_move rfl rfl) ?_
  clear hk; intro a hk
  refine hK2 _ _ ?_
  clear hK2
  have hk2 : Keeps 47 ([(17, .int .i64 0), (16, .int .i64 ((n : Nat) : Int)), (10, .pointer (some ⟨q10, 0, none⟩)), (9, .int .i64 0), (8, .int .i64 0), (7, .pointer (some ⟨q7, 0, none⟩)), (6, .pointer (some ⟨q6, 0, none⟩)), (1, .int .u32 ((t : Nat) : Int)), (0, .slice ad n cap)]) a := by
    refine ⟨hk.1, hk.2.1, fun x hx => hk.2.2 x ?_⟩
    rcases List.mem_cons.1 hx with rfl | hx
    · exact List.mem_cons_self ..
    rcases List.mem_cons.1 hx with rfl | hx
    · exact List.mem_cons_of_mem _ (List.mem_cons_self ..)
    rcases List.mem_cons.1 hx with rfl | hx
    · exact List.mem_cons_of_mem _ (List.mem_cons_of_mem _ (List.mem_cons_of_mem _ (List.mem_cons_self ..)))
    rcases List.mem_cons.1 hx with rfl | hx
    · exact List.mem_cons_of_mem _ (List.mem_cons_of_mem _ (List.mem_cons_of_mem _ (List.mem_cons_of_mem _ (List.mem_cons_self ..))))
    rcases List.mem_cons.1 hx with rfl | hx
    · exact List.mem_cons_of_mem _ (List.mem_cons_of_mem _ (List.mem_cons_of_mem _ (List.mem_cons_of_mem _ (List.mem_cons_of_mem _ (List.mem_cons_self ..)))))
    rcases List.mem_cons.1 hx with rfl | hx
    · exact List.mem_cons_of_mem _ (List.mem_cons_of_mem _ (List.mem_cons_of_mem _ (List.mem_cons_of_mem _ (List.mem_cons_of_mem _ (List.mem_cons_of_mem _ (List.mem_cons_self ..))))))
    rcases List.mem_cons.1 hx with rfl | hx
    · exact List.mem_cons_of_mem _ (List.mem_cons_of_mem _ (List.mem_cons_of_mem _ (List.mem_cons_of_mem _ (List.mem_cons_of_mem _ (List.mem_cons_of_mem _ (List.mem_cons_of_mem _ (List.mem_cons_self ..)))))))
    rcases List.mem_cons.1 hx with rfl | hx
    · exact List.mem_cons_of_mem _ (List.mem_cons_of_mem _ (List.mem_cons_of_mem _ (List.mem_cons_of_mem _ (List.mem_cons_of_mem _ (List.mem_cons_of_mem _ (List.mem_cons_of_mem _ (List.mem_cons_of_mem _ (List.mem_cons_self ..))))))))
    rcases List.mem_cons.1 hx with rfl | hx
    · exact List.mem_cons_of_mem _ (List.mem_cons_of_mem _ (List.mem_cons_of_mem _ (List.mem_cons_of_mem _ (List.mem_cons_of_mem _ (List.mem_cons_of_mem _ (List.mem_cons_of_mem _ (List.mem_cons_of_mem _ (List.mem_cons_of_mem _ (List.mem_cons_self ..)))))))))
    cases hx
  clear hk
  have hk := hk2
  clear hk2
  refine wp_block ?_
  refine wp_loop (fun a' w' => ∃ k, k ≤ n ∧ Keeps 47 [(17, .int .i64 ((k : Nat) : Int)), (16, .int .i64 ((n : Nat) : Int)), (10, .pointer (some ⟨q10, 0, none⟩)), (9, .int .i64 0), (8, .int .i64 ((k : Nat) : Int)), (7, .pointer (some ⟨q7, 0, none⟩)), (6, .pointer (some ⟨q6, 0, none⟩)), (1, .int .u32 ((t : Nat) : Int)), (0, .slice ad n cap)] a' ∧ Blk w' q6 (bvs ((x :: ks).getD k [])) 59 ∧ Blk w' q7 (uN (v + k)) 77 ∧ Blk w' q10 (uN 1) 77 ∧ Blk w' g cs tg ∧ Below w.heap.size w w' ∧ ∀ j, j < k → tOf (ks.getD j []) = t ∧ vOf (ks.getD j []) = v + 1 + j) (fun a' _ => n - (intOf (a'.eval (.tmp 17))).toNat) ⟨0, Nat.zero_le _, hk.sub (fun x hx => by simp at hx ⊢; rcases hx with rfl | rfl | rfl | rfl | rfl | rfl | rfl | rfl | rfl <;> simp), B6, B7, B10, BG, hb5, fun j hj => absurd hj (Nat.not_lt_zero j)⟩ ?_
  clear hk B6 B7 B10 BG hb5
  rintro a w5 ⟨k, hkn, hk, B6, B7, B10, BG, hb5, hall⟩
  have hmu : (intOf (a.eval (.tmp 17))).toNat = k := by
    rw [hk.at (t := 17) (v := .int .i64 ((k : Nat) : Int)) (by simp)]
    simp [intOf]
  refine wp_seq_k fun K2 hK2 => ?_
  refine wp_region_lit ?_
  refine list_k rfl rfl hk (by decide) (by repeat' (first | exact far_nil _ | refine far_cons (by decide) ?_)) (v := .bool (decide (k < n))) (do_lss rfl Try.underlying3 (hk.at (List.mem_cons_self ..)) (hk.at (List.mem_cons_of_mem _ (List.mem_cons_self ..)))) ?_
  clear hk; intro a hk
  refine hK2 _ _ ?_
  clear hK2
  refine wp_seq_k fun K2 hK2 => ?_
  refine wp_cond (hk.at (List.mem_cons_self ..)) ?_
  have hk2 : Keeps 47 ([(17, .int .i64 ((k : Nat) : Int)), (16, .int .i64 ((n : Nat) : Int)), (10, .pointer (some ⟨q10, 0, none⟩)), (9, .int .i64 0), (8, .int .i64 ((k : Nat) : Int)), (7, .pointer (some ⟨q7, 0, none⟩)), (6, .pointer (some ⟨q6, 0, none⟩)), (1, .int .u32 ((t : Nat) : Int)), (0, .slice ad n cap)]) a := by
    refine ⟨hk.1, hk.2.1, fun x hx => hk.2.2 x ?_⟩
    rcases List.mem_cons.1 hx with rfl | hx
    · exact List.mem_cons_of_mem _ (List.mem_cons_self ..)
    rcases List.mem_cons.1 hx with rfl | hx
    · exact List.mem_cons_of_mem _ (List.mem_cons_of_mem _ (List.mem_cons_self ..))
    rcases List.mem_cons.1 hx with rfl | hx
    · exact List.mem_cons_of_mem _ (List.mem_cons_of_mem _ (List.mem_cons_of_mem _ (List.mem_cons_self ..)))
    rcases List.mem_cons.1 hx with rfl | hx
    · exact List.mem_cons_of_mem _ (List.mem_cons_of_mem _ (List.mem_cons_of_mem _ (List.mem_cons_of_mem _ (List.mem_cons_self ..))))
    rcases List.mem_cons.1 hx with rfl | hx
    · exact List.mem_cons_of_mem _ (List.mem_cons_of_mem _ (List.mem_cons_of_mem _ (List.mem_cons_of_mem _ (List.mem_cons_of_mem _ (List.mem_cons_self ..)))))
    rcases List.mem_cons.1 hx with rfl | hx
    · exact List.mem_cons_of_mem _ (List.mem_cons_of_mem _ (List.mem_cons_of_mem _ (List.mem_cons_of_mem _ (List.mem_cons_of_mem _ (List.mem_cons_of_mem _ (List.mem_cons_self ..))))))
    rcases List.mem_cons.1 hx with rfl | hx
    · exact List.mem_cons_of_mem _ (List.mem_cons_of_mem _ (List.mem_cons_of_mem _ (List.mem_cons_of_mem _ (List.mem_cons_of_mem _ (List.mem_cons_of_mem _ (List.mem_cons_of_mem _ (List.mem_cons_self ..)))))))
    rcases List.mem_cons.1 hx with rfl | hx
    · exact List.mem_cons_of_mem _ (List.mem_cons_of_mem _ (List.mem_cons_of_mem _ (List.mem_cons_of_mem _ (List.mem_cons_of_mem _ (List.mem_cons_of_mem _ (List.mem_cons_of_mem _ (List.mem_cons_of_mem _ (List.mem_cons_self ..))))))))
    rcases List.mem_cons.1 hx with rfl | hx
    · exact List.mem_cons_of_mem _ (List.mem_cons_of_mem _ (List.mem_cons_of_mem _ (List.mem_cons_of_mem _ (List.mem_cons_of_mem _ (List.mem_cons_of_mem _ (List.mem_cons_of_mem _ (List.mem_cons_of_mem _ (List.mem_cons_of_mem _ (List.mem_cons_self ..)))))))))
    cases hx
  clear hk
  have hk := hk2
  clear hk2
  by_cases hlt : k < n
  case neg =>
    rw [decide_eq_false hlt]
    refine wp_exit ?_
    simp only [Exit.inBlock, Exit.then, if_true]
    refine hK1 _ _ ?_
    clear hK1 hK2
    refine wp_seq_k fun K7 hK7 => ?_
    refine wp_region_lit ?_
    refine list_k rfl rfl hk (by decide) (by repeat' (first | exact far_nil _ | refine far_cons (by decide) ?_)) (v := .slice ad n cap) (do_move rfl (hk.at (List.mem_cons_of_mem _ (List.mem_cons_of_mem _ (List.mem_cons_of_mem _ (List.mem_cons_of_mem _ (List.mem_cons_of_mem _ (List.mem_cons_of_mem _ (List.mem_cons_of_mem _ (List.mem_cons_of_mem _ (List.mem_cons_self ..))))))))))) ?_
    clear hk; intro a hk
    refine list_k rfl rfl hk (by decide) (by repeat' (first | exact far_nil _ | refine far_cons (by decide) ?_)) (v := .int .i64 ((n : Nat) : Int)) (do_lenS rfl (hk.at (List.mem_cons_self ..)) Try.underlying70) ?_
    clear hk; intro a hk
    have hk2 : Keeps 47 ([(46, .int .i64 ((n : Nat) : Int)), (45, .slice ad n cap), (17, .int .i64 ((k : Nat) : Int)), (16, .int .i64 ((n : Nat) : Int)), (10, .pointer (some ⟨q10, 0, none⟩)), (8, .int .i64 ((k : Nat) : Int)), (7, .pointer (some ⟨q7, 0, none⟩)), (6, .pointer (some ⟨q6, 0, none⟩)), (1, .int .u32 ((t : Nat) : Int)), (0, .slice ad n cap)]) a := by
      refine ⟨hk.1, hk.2.1, fun x hx => hk.2.2 x ?_⟩
      rcases List.mem_cons.1 hx with rfl | hx
      · exact List.mem_cons_self ..
      rcases List.mem_cons.1 hx with rfl | hx
      · exact List.mem_cons_of_mem _ (List.mem_cons_self ..)
      rcases List.mem_cons.1 hx with rfl | hx
      · exact List.mem_cons_of_mem _ (List.mem_cons_of_mem _ (List.mem_cons_self ..))
      rcases List.mem_cons.1 hx with rfl | hx
      · exact List.mem_cons_of_mem _ (List.mem_cons_of_mem _ (List.mem_cons_of_mem _ (List.mem_cons_self ..)))
      rcases List.mem_cons.1 hx with rfl | hx
      · exact List.mem_cons_of_mem _ (List.mem_cons_of_mem _ (List.mem_cons_of_mem _ (List.mem_cons_of_mem _ (List.mem_cons_self ..))))
      rcases List.mem_cons.1 hx with rfl | hx
      · exact List.mem_cons_of_mem _ (List.mem_cons_of_mem _ (List.mem_cons_of_mem _ (List.mem_cons_of_mem _ (List.mem_cons_of_mem _ (List.mem_cons_of_mem _ (List.mem_cons_self ..))))))
      rcases List.mem_cons.1 hx with rfl | hx
      · exact List.mem_cons_of_mem _ (List.mem_cons_of_mem _ (List.mem_cons_of_mem _ (List.mem_cons_of_mem _ (List.mem_cons_of_mem _ (List.mem_cons_of_mem _ (List.mem_cons_of_mem _ (List.mem_cons_self ..)))))))
      rcases List.mem_cons.1 hx with rfl | hx
      · exact List.mem_cons_of_mem _ (List.mem_cons_of_mem _ (List.mem_cons_of_mem _ (List.mem_cons_of_mem _ (List.mem_cons_of_mem _ (List.mem_cons_of_mem _ (List.mem_cons_of_mem _ (List.mem_cons_of_mem _ (List.mem_cons_self ..))))))))
      rcases List.mem_cons.1 hx with rfl | hx
      · exact List.mem_cons_of_mem _ (List.mem_cons_of_mem _ (List.mem_cons_of_mem _ (List.mem_cons_of_mem _ (List.mem_cons_of_mem _ (List.mem_cons_of_mem _ (List.mem_cons_of_mem _ (List.mem_cons_of_mem _ (List.mem_cons_of_mem _ (List.mem_cons_self ..)))))))))
      rcases List.mem_cons.1 hx with rfl | hx
      · exact List.mem_cons_of_mem _ (List.mem_cons_of_mem _ (List.mem_cons_of_mem _ (List.mem_cons_of_mem _ (List.mem_cons_of_mem _ (List.mem_cons_of_mem _ (List.mem_cons_of_mem _ (List.mem_cons_of_mem _ (List.mem_cons_of_mem _ (List.mem_cons_of_mem _ (List.mem_cons_self ..))))))))))
      cases hx
    clear hk
    have hk := hk2
    clear hk2
    refine list_k rfl rfl hk (by decide) (by repeat' (first | exact far_nil _ | refine far_cons (by decide) ?_)) (v := .int .i64 ((n : Nat) : Int)) (do_assign rfl (hk.at (List.mem_cons_self ..))) ?_
    clear hk; intro a hk
    refine hK7 _ _ (wp_ret ?_)
    obtain rfl : k = n := by omega
    refine ret_tmp2 rfl hk.2.1 (hk.at (t := 8) (v := .int .i64 ((k : Nat) : Int)) (by simp)) (hk.at (t := 9) (v := .int .i64 ((k : Nat) : Int)) (by simp)) ?_
    exact ⟨k, rfl, Nat.le_refl _, hall, hb5⟩
  case pos =>
    rw [decide_eq_true hlt]
    refine wp_skip (hK2 _ _ ?_)
    clear hK2 hK1
    obtain rfl := had (by omega)
    have hmid := hids k hlt
    have hst := hasc.step (by intro z hz; rcases List.mem_cons.1 hz with rfl | hz; exact hx; exact h20 z hz) k (by rw [List.length_cons, hn]; omega)
    have e1 : (x :: ks).getD (k + 1) [] = ks.getD k [] := by simp
    rw [e1] at hst
    have hy : (ks.getD k []).length = 20 := h20 _ (getD_mem (d := []) (by omega))
    have hlx : ((x :: ks).getD k []).length = 20 ∧ tOf ((x :: ks).getD k []) = t ∧ vOf ((x :: ks).getD k []) = v + k := by
      cases k with
      | zero => exact ⟨hx, ht, hv⟩
      | succ i =>
        have e2 : (x :: ks).getD (i + 1) [] = ks.getD i [] := by simp
        rw [e2]
        have := hall i (by omega)
        exact ⟨h20 _ (getD_mem (d := []) (by omega)), this.1, by omega⟩
    have hne : ¬ ks.getD k [] = (x :: ks).getD k [] := by
      intro e
      have := hasc k (by rw [List.length_cons, hn]; omega)
      rw [e1, e] at this
      omega
    rw [← e1] at hne
    rw [hlx.2.1, hlx.2.2] at hst
    have L6 : (bvs ((x :: ks).getD k [])).length = 20 := by rw [bvs_length, hlx.1]
    have Ly : (bvs (ks.getD k [])).length = 20 := by rw [bvs_length, hy]
    have hvy := vOf_lt _ hy
    rw [e1] at hne
    have HQ : ∀ w, (Op.equalIn 10000 59 (.agg (bvs (ks.getD k [])).toArray) (.agg (bvs ((x :: ks).getD k [])).toArray)).run Try.prog w = .ok false w := by
      intro w
      rw [eqK _ _ hy hlx.1, decide_eq_false hne]
    obtain ⟨lx, hlxe⟩ : ∃ lx, lx = (x :: ks).getD k [] := ⟨_, rfl⟩
    obtain ⟨y, hye⟩ : ∃ y, y = ks.getD k [] := ⟨_, rfl⟩
    have hend : ∀ w' : World, tOf y = t → vOf y = v + 1 + k → Blk w' q6 (bvs y) 59 → Blk w' q6 (bvs ((x :: ks).getD (k + 1) [])) 59 ∧ ∀ j, j < k + 1 → tOf (ks.getD j []) = t ∧ vOf (ks.getD j []) = v + 1 + j := by
      intro w' h1 h2 h3
      refine ⟨by rw [e1, ← hye]; exact h3, fun j hj => ?_⟩
      by_cases hjk : j < k
      · exact hall j hjk
      · obtain rfl : j = k := by omega
        rw [← hye]
        exact ⟨h1, h2⟩
    rw [← hlxe] at B6 L6 HQ
    rw [← hye] at hmid hst hy Ly hvy HQ
    clear hlx hne e1 hlxe hye
    refine wp_seq_k fun K8 hK8 => wp_block ?_
    refine wp_seq_k fun K3 hK3 => ?_
    refine wp_region_lit ?_
    refine list_k rfl rfl hk (by decide) (by repeat' (first | exact far_nil _ | refine far_cons (by decide) ?_)) (v := .int .i64 ((k : Nat) : Int)) (do_move rfl (hk.at (List.mem_cons_self ..))) ?_
    clear hk; intro a hk
    refine list_k rfl rfl hk (by decide) (by repeat' (first | exact far_nil _ | refine far_cons (by decide) ?_)) (v := .int .i64 ((k : Nat) : Int)) (do_assign rfl (hk.at (List.mem_cons_self ..))) ?_
    clear hk; intro a hk
    refine hK3 _ _ ?_
    clear hK3
    have hk2 : Keeps 47 ([(11, .int .i64 ((k : Nat) : Int)), (17, .int .i64 ((k : Nat) : Int)), (16, .int .i64 ((n : Nat) : Int)), (10, .pointer (some ⟨q10, 0, none⟩)), (9, .int .i64 0), (8, .int .i64 ((k : Nat) : Int)), (7, .pointer (some ⟨q7, 0, none⟩)), (6, .pointer (some ⟨q6, 0, none⟩)), (1, .int .u32 ((t : Nat) : Int)), (0, .slice (some ⟨g, off, none⟩) n cap)]) a := by
      refine ⟨hk.1, hk.2.1, fun x hx => hk.2.2 x ?_⟩
      rcases List.mem_cons.1 hx with rfl | hx
      · exact List.mem_cons_self ..
      rcases List.mem_cons.1 hx with rfl | hx
      · exact List.mem_cons_of_mem _ (List.mem_cons_of_mem _ (List.mem_cons_self ..))
      rcases List.mem_cons.1 hx with rfl | hx
      · exact List.mem_cons_of_mem _ (List.mem_cons_of_mem _ (List.mem_cons_of_mem _ (List.mem_cons_self ..)))
      rcases List.mem_cons.1 hx with rfl | hx
      · exact List.mem_cons_of_mem _ (List.mem_cons_of_mem _ (List.mem_cons_of_mem _ (List.mem_cons_of_mem _ (List.mem_cons_self ..))))
      rcases List.mem_cons.1 hx with rfl | hx
      · exact List.mem_cons_of_mem _ (List.mem_cons_of_mem _ (List.mem_cons_of_mem _ (List.mem_cons_of_mem _ (List.mem_cons_of_mem _ (List.mem_cons_self ..)))))
      rcases List.mem_cons.1 hx with rfl | hx
      · exact List.mem_cons_of_mem _ (List.mem_cons_of_mem _ (List.mem_cons_of_mem _ (List.mem_cons_of_mem _ (List.mem_cons_of_mem _ (List.mem_cons_of_mem _ (List.mem_cons_self ..))))))
      rcases List.mem_cons.1 hx with rfl | hx
      · exact List.mem_cons_of_mem _ (List.mem_cons_of_mem _ (List.mem_cons_of_mem _ (List.mem_cons_of_mem _ (List.mem_cons_of_mem _ (List.mem_cons_of_mem _ (List.mem_cons_of_mem _ (List.mem_cons_self ..)))))))
      rcases List.mem_cons.1 hx with rfl | hx
      · exact List.mem_cons_of_mem _ (List.mem_cons_of_mem _ (List.mem_cons_of_mem _ (List.mem_cons_of_mem _ (List.mem_cons_of_mem _ (List.mem_cons_of_mem _ (List.mem_cons_of_mem _ (List.mem_cons_of_mem _ (List.mem_cons_self ..))))))))
      rcases List.mem_cons.1 hx with rfl | hx
      · exact List.mem_cons_of_mem _ (List.mem_cons_of_mem _ (List.mem_cons_of_mem _ (List.mem_cons_of_mem _ (List.mem_cons_of_mem _ (List.mem_cons_of_mem _ (List.mem_cons_of_mem _ (List.mem_cons_of_mem _ (List.mem_cons_of_mem _ (List.mem_cons_self ..)))))))))
      rcases List.mem_cons.1 hx with rfl | hx
      · exact List.mem_cons_of_mem _ (List.mem_cons_of_mem _ (List.mem_cons_of_mem _ (List.mem_cons_of_mem _ (List.mem_cons_of_mem _ (List.mem_cons_of_mem _ (List.mem_cons_of_mem _ (List.mem_cons_of_mem _ (List.mem_cons_of_mem _ (List.mem_cons_of_mem _ (List.mem_cons_self ..))))))))))
      cases hx
    clear hk
    have hk := hk2
    clear hk2
    refine wp_seq_k fun K3 hK3 => ?_
    refine wp_region_lit ?_
    refine list_k rfl rfl hk (by decide) (by repeat' (first | exact far_nil _ | refine far_cons (by decide) ?_)) (v := .slice (some ⟨g, off, none⟩) n cap) (do_move rfl (hk.at (List.mem_cons_of_mem _ (List.mem_cons_of_mem _ (List.mem_cons_of_mem _ (List.mem_cons_of_mem _ (List.mem_cons_of_mem _ (List.mem_cons_of_mem _ (List.mem_cons_of_mem _ (List.mem_cons_of_mem _ (List.mem_cons_of_mem _ (List.mem_cons_self ..)))))))))))) ?_
    clear hk; intro a hk
    refine list_k rfl rfl hk (by decide) (by repeat' (first | exact far_nil _ | refine far_cons (by decide) ?_)) (v := .int .i64 ((k : Nat) : Int)) (do_move rfl (hk.at (List.mem_cons_of_mem _ (List.mem_cons_self ..)))) ?_
    clear hk; intro a hk
    refine list_k rfl rfl hk (by decide) (by repeat' (first | exact far_nil _ | refine far_cons (by decide) ?_)) (v := .pointer (some ⟨g, off + k * 20, none⟩)) (do_ixW rfl Try.underlying70 (by kernel_rfl) (hk.at (List.mem_cons_of_mem _ (List.mem_cons_self ..))) k (hk.at (List.mem_cons_self ..)) hlt) ?_
    clear hk; intro a hk
    refine list_k rfl rfl hk (by decide) (by repeat' (first | exact far_nil _ | refine far_cons (by decide) ?_)) (v := .agg (bvs y).toArray) (do_ldP ksArr rfl (hk.at (List.mem_cons_self ..)) BG hmid Ly) ?_
    clear hk; intro a hk
    obtain ⟨q12, hq12⟩ : ∃ q, q = w5.heap.size := ⟨_, rfl⟩
    have : g < q12 := by rw [hq12]; exact BG.lt
    have : q6 < q12 := by rw [hq12]; exact B6.lt
    have : q7 < q12 := by rw [hq12]; exact B7.lt
    have : q10 < q12 := by rw [hq12]; exact B10.lt
    have hBq12 : w.heap.size ≤ q12 := by rw [hq12]; exact hb5.size
    refine wp_alloc_blk ksArr hb5 rfl rfl hq12.symm hBq12 ?_
    intro w6 B12 gg ss hb6
    clear ss hq12
    replace BG := BG.grown gg (by simp)
    replace B6 := B6.grown gg (by simp)
    replace B7 := B7.grown gg (by simp)
    replace B10 := B10.grown gg (by simp)
    clear gg
    refine keep_k (v := .pointer (some ⟨q12, 0, none⟩)) hk (by decide) (by repeat' (first | exact far_nil _ | refine far_cons (by decide) ?_)) ?_
    clear hk; intro a hk
    refine wp_store_blk ksArr hb6 rfl rfl (hk.at (List.mem_cons_self ..)) (cs := bvs y) (hk.at (List.mem_cons_of_mem _ (List.mem_cons_self ..))) B12 hBq12 rfl Ly (bvs_one _) ?_
    intro w7 B12n gg ss hb7
    clear ss
    replace BG := BG.grown gg (by intro e; have := Option.some.inj e; omega)
    replace B6 := B6.grown gg (by intro e; have := Option.some.inj e; omega)
    replace B7 := B7.grown gg (by intro e; have := Option.some.inj e; omega)
    replace B10 := B10.grown gg (by intro e; have := Option.some.inj e; omega)
    clear gg B12
    have B12 := B12n
    clear B12n
    refine keep_0 hk ?_
    clear hk; intro a hk
    refine hK3 _ _ ?_
    clear hK3
    have hk2 : Keeps 47 ([(12, .pointer (some ⟨q12, 0, none⟩)), (11, .int .i64 ((k : Nat) : Int)), (17, .int .i64 ((k : Nat) : Int)), (16, .int .i64 ((n : Nat) : Int)), (10, .pointer (some ⟨q10, 0, none⟩)), (9, .int .i64 0), (8, .int .i64 ((k : Nat) : Int)), (7, .pointer (some ⟨q7, 0, none⟩)), (6, .pointer (some ⟨q6, 0, none⟩)), (1, .int .u32 ((t : Nat) : Int)), (0, .slice (some ⟨g, off, none⟩) n cap)]) a := by
      refine ⟨hk.1, hk.2.1, fun x hx => hk.2.2 x ?_⟩
      rcases List.mem_cons.1 hx with rfl | hx
      · exact List.mem_cons_self ..
      rcases List.mem_cons.1 hx with rfl | hx
      · exact List.mem_cons_of_mem _ (List.mem_cons_of_mem _ (List.mem_cons_of_mem _ (List.mem_cons_of_mem _ (List.mem_cons_of_mem _ (List.mem_cons_self ..)))))
      rcases List.mem_cons.1 hx with rfl | hx
      · exact List.mem_cons_of_mem _ (List.mem_cons_of_mem _ (List.mem_cons_of_mem _ (List.mem_cons_of_mem _ (List.mem_cons_of_mem _ (List.mem_cons_of_mem _ (List.mem_cons_self ..))))))
      rcases List.mem_cons.1 hx with rfl | hx
      · exact List.mem_cons_of_mem _ (List.mem_cons_of_mem _ (List.mem_cons_of_mem _ (List.mem_cons_of_mem _ (List.mem_cons_of_mem _ (List.mem_cons_of_mem _ (List.mem_cons_of_mem _ (List.mem_cons_self ..)))))))
      rcases List.mem_cons.1 hx with rfl | hx
      · exact List.mem_cons_of_mem _ (List.mem_cons_of_mem _ (List.mem_cons_of_mem _ (List.mem_cons_of_mem _ (List.mem_cons_of_mem _ (List.mem_cons_of_mem _ (List.mem_cons_of_mem _ (List.mem_cons_of_mem _ (List.mem_cons_self ..))))))))
      rcases List.mem_cons.1 hx with rfl | hx
      · exact List.mem_cons_of_mem _ (List.mem_cons_of_mem _ (List.mem_cons_of_mem _ (List.mem_cons_of_mem _ (List.mem_cons_of_mem _ (List.mem_cons_of_mem _ (List.mem_cons_of_mem _ (List.mem_cons_of_mem _ (List.mem_cons_of_mem _ (List.mem_cons_self ..)))))))))
      rcases List.mem_cons.1 hx with rfl | hx
      · exact List.mem_cons_of_mem _ (List.mem_cons_of_mem _ (List.mem_cons_of_mem _ (List.mem_cons_of_mem _ (List.mem_cons_of_mem _ (List.mem_cons_of_mem _ (List.mem_cons_of_mem _ (List.mem_cons_of_mem _ (List.mem_cons_of_mem _ (List.mem_cons_of_mem _ (List.mem_cons_self ..))))))))))
      rcases List.mem_cons.1 hx with rfl | hx
      · exact List.mem_cons_of_mem _ (List.mem_cons_of_mem _ (List.mem_cons_of_mem _ (List.mem_cons_of_mem _ (List.mem_cons_of_mem _ (List.mem_cons_of_mem _ (List.mem_cons_of_mem _ (List.mem_cons_of_mem _ (List.mem_cons_of_mem _ (List.mem_cons_of_mem _ (List.mem_cons_of_mem _ (List.mem_cons_self ..)))))))))))
      rcases List.mem_cons.1 hx with rfl | hx
      · exact List.mem_cons_of_mem _ (List.mem_cons_of_mem _ (List.mem_cons_of_mem _ (List.mem_cons_of_mem _ (List.mem_cons_of_mem _ (List.mem_cons_of_mem _ (List.mem_cons_of_mem _ (List.mem_cons_of_mem _ (List.mem_cons_of_mem _ (List.mem_cons_of_mem _ (List.mem_cons_of_mem _ (List.mem_cons_of_mem _ (List.mem_cons_self ..))))))))))))
      rcases List.mem_cons.1 hx with rfl | hx
      · exact List.mem_cons_of_mem _ (List.mem_cons_of_mem _ (List.mem_cons_of_mem _ (List.mem_cons_of_mem _ (List.mem_cons_of_mem _ (List.mem_cons_of_mem _ (List.mem_cons_of_mem _ (List.mem_cons_of_mem _ (List.mem_cons_of_mem _ (List.mem_cons_of_mem _ (List.mem_cons_of_mem _ (List.mem_cons_of_mem _ (List.mem_cons_of_mem _ (List.mem_cons_self ..)))))))))))))
      rcases List.mem_cons.1 hx with rfl | hx
      · exact List.mem_cons_of_mem _ (List.mem_cons_of_mem _ (List.mem_cons_of_mem _ (List.mem_cons_of_mem _ (List.mem_cons_of_mem _ (List.mem_cons_of_mem _ (List.mem_cons_of_mem _ (List.mem_cons_of_mem _ (List.mem_cons_of_mem _ (List.mem_cons_of_mem _ (List.mem_cons_of_mem _ (List.mem_cons_of_mem _ (List.mem_cons_of_mem _ (List.mem_cons_of_mem _ (List.mem_cons_self ..))))))))))))))
      cases hx
    clear hk
    have hk := hk2
    clear hk2
    refine wp_seq_k fun K3 hK3 => ?_
    refine wp_seq_k fun K4 hK4 => ?_
    refine wp_region_lit ?_
    refine list_k rfl rfl hk (by decide) (by repeat' (first | exact far_nil _ | refine far_cons (by decide) ?_)) (v := .agg (bvs y).toArray) (do_ldA ksArr rfl (hk.at (List.mem_cons_self ..)) B12 Ly) ?_
    clear hk; intro a hk
    refine list_k rfl rfl hk (by decide) (by repeat' (first | exact far_nil _ | refine far_cons (by decide) ?_)) (v := .agg (bvs lx).toArray) (do_ldA ksArr rfl (hk.at (List.mem_cons_of_mem _ (List.mem_cons_of_mem _ (List.mem_cons_of_mem _ (List.mem_cons_of_mem _ (List.mem_cons_of_mem _ (List.mem_cons_of_mem _ (List.mem_cons_of_mem _ (List.mem_cons_of_mem _ (List.mem_cons_of_mem _ (List.mem_cons_self ..))))))))))) B6 L6) ?_
    clear hk; intro a hk
    refine list_k rfl rfl hk (by decide) (by repeat' (first | exact far_nil _ | refine far_cons (by decide) ?_)) (v := .bool false) (do_eqA rfl (by kernel_rfl) (hk.at (List.mem_cons_of_mem _ (List.mem_cons_self ..))) (hk.at (List.mem_cons_self ..)) HQ) ?_
    clear hk; intro a hk
    refine hK4 _ _ (wp_cond_false (hk.at (List.mem_cons_self ..)) (wp_skip (hK3 _ _ ?_)))
    clear hK4 hK3
    have hk2 : Keeps 47 ([(12, .pointer (some ⟨q12, 0, none⟩)), (11, .int .i64 ((k : Nat) : Int)), (17, .int .i64 ((k : Nat) : Int)), (16, .int .i64 ((n : Nat) : Int)), (10, .pointer (some ⟨q10, 0, none⟩)), (9, .int .i64 0), (8, .int .i64 ((k : Nat) : Int)), (7, .pointer (some ⟨q7, 0, none⟩)), (6, .pointer (some ⟨q6, 0, none⟩)), (1, .int .u32 ((t : Nat) : Int)), (0, .slice (some ⟨g, off, none⟩) n cap)]) a := by
      refine ⟨hk.1, hk.2.1, fun x hx => hk.2.2 x ?_⟩
      rcases List.mem_cons.1 hx with rfl | hx
      · exact List.mem_cons_of_mem _ (List.mem_cons_of_mem _ (List.mem_cons_of_mem _ (List.mem_cons_self ..)))
      rcases List.mem_cons.1 hx with rfl | hx
      · exact List.mem_cons_of_mem _ (List.mem_cons_of_mem _ (List.mem_cons_of_mem _ (List.mem_cons_of_mem _ (List.mem_cons_self ..))))
      rcases List.mem_cons.1 hx with rfl | hx
      · exact List.mem_cons_of_mem _ (List.mem_cons_of_mem _ (List.mem_cons_of_mem _ (List.mem_cons_of_mem _ (List.mem_cons_of_mem _ (List.mem_cons_self ..)))))
      rcases List.mem_cons.1 hx with rfl | hx
      · exact List.mem_cons_of_mem _ (List.mem_cons_of_mem _ (List.mem_cons_of_mem _ (List.mem_cons_of_mem _ (List.mem_cons_of_mem _ (List.mem_cons_of_mem _ (List.mem_cons_self ..))))))
      rcases List.mem_cons.1 hx with rfl | hx
      · exact List.mem_cons_of_mem _ (List.mem_cons_of_mem _ (List.mem_cons_of_mem _ (List.mem_cons_of_mem _ (List.mem_cons_of_mem _ (List.mem_cons_of_mem _ (List.mem_cons_of_mem _ (List.mem_cons_self ..)))))))
      rcases List.mem_cons.1 hx with rfl | hx
      · exact List.mem_cons_of_mem _ (List.mem_cons_of_mem _ (List.mem_cons_of_mem _ (List.mem_cons_of_mem _ (List.mem_cons_of_mem _ (List.mem_cons_of_mem _ (List.mem_cons_of_mem _ (List.mem_cons_of_mem _ (List.mem_cons_self ..))))))))
      rcases List.mem_cons.1 hx with rfl | hx
      · exact List.mem_cons_of_mem _ (List.mem_cons_of_mem _ (List.mem_cons_of_mem _ (List.mem_cons_of_mem _ (List.mem_cons_of_mem _ (List.mem_cons_of_mem _ (List.mem_cons_of_mem _ (List.mem_cons_of_mem _ (List.mem_cons_of_mem _ (List.mem_cons_self ..)))))))))
      rcases List.mem_cons.1 hx with rfl | hx
      · exact List.mem_cons_of_mem _ (List.mem_cons_of_mem _ (List.mem_cons_of_mem _ (List.mem_cons_of_mem _ (List.mem_cons_of_mem _ (List.mem_cons_of_mem _ (List.mem_cons_of_mem _ (List.mem_cons_of_mem _ (List.mem_cons_of_mem _ (List.mem_cons_of_mem _ (List.mem_cons_self ..))))))))))
      rcases List.mem_cons.1 hx with rfl | hx
      · exact List.mem_cons_of_mem _ (List.mem_cons_of_mem _ (List.mem_cons_of_mem _ (List.mem_cons_of_mem _ (List.mem_cons_of_mem _ (List.mem_cons_of_mem _ (List.mem_cons_of_mem _ (List.mem_cons_of_mem _ (List.mem_cons_of_mem _ (List.mem_cons_of_mem _ (List.mem_cons_of_mem _ (List.mem_cons_self ..)))))))))))
      rcases List.mem_cons.1 hx with rfl | hx
      · exact List.mem_cons_of_mem _ (List.mem_cons_of_mem _ (List.mem_cons_of_mem _ (List.mem_cons_of_mem _ (List.mem_cons_of_mem _ (List.mem_cons_of_mem _ (List.mem_cons_of_mem _ (List.mem_cons_of_mem _ (List.mem_cons_of_mem _ (List.mem_cons_of_mem _ (List.mem_cons_of_mem _ (List.mem_cons_of_mem _ (List.mem_cons_self ..))))))))))))
      rcases List.mem_cons.1 hx with rfl | hx
      · exact List.mem_cons_of_mem _ (List.mem_cons_of_mem _ (List.mem_cons_of_mem _ (List.mem_cons_of_mem _ (List.mem_cons_of_mem _ (List.mem_cons_of_mem _ (List.mem_cons_of_mem _ (List.mem_cons_of_mem _ (List.mem_cons_of_mem _ (List.mem_cons_of_mem _ (List.mem_cons_of_mem _ (List.mem_cons_of_mem _ (List.mem_cons_of_mem _ (List.mem_cons_self ..)))))))))))))
      cases hx
    clear hk
    have hk := hk2
    clear hk2
    refine wp_seq_k fun K3 hK3 => ?_
    refine wp_seq_k fun K4 hK4 => ?_
    refine wp_region_lit ?_
    refine list_k rfl rfl hk (by decide) (by repeat' (first | exact far_nil _ | refine far_cons (by decide) ?_)) (v := .agg (bvs y).toArray) (do_ldA ksArr rfl (hk.at (List.mem_cons_self ..)) B12 Ly) ?_
    clear hk; intro a hk
    refine wp_call rfl (do_call1  rfl (hk.at (List.mem_cons_self ..)) (ent1_ts _)) (timestamp_ok y _ hy) ?_
    rintro e w8 ⟨rfl, hbc⟩
    replace BG := BG.kept hbc
    replace B6 := B6.kept hbc
    replace B7 := B7.kept hbc
    replace B10 := B10.kept hbc
    replace B12 := B12.kept hbc
    have hb8 := hb7.trans (hbc.mono hb7.size)
    clear hbc
    refine ⟨_, rfl, ?_⟩
    refine keep_k (v := .int .u32 ((tOf y : Nat) : Int)) hk (by decide) (by repeat' (first | exact far_nil _ | refine far_cons (by decide) ?_)) ?_
    clear hk; intro a hk
    refine list_k rfl rfl hk (by decide) (by repeat' (first | exact far_nil _ | refine far_cons (by decide) ?_)) (v := .int .u32 ((t : Nat) : Int)) (do_move rfl (hk.at (List.mem_cons_of_mem _ (List.mem_cons_of_mem _ (List.mem_cons_of_mem _ (List.mem_cons_of_mem _ (List.mem_cons_of_mem _ (List.mem_cons_of_mem _ (List.mem_cons_of_mem _ (List.mem_cons_of_mem _ (List.mem_cons_of_mem _ (List.mem_cons_of_mem _ (List.mem_cons_of_mem _ (List.mem_cons_self ..)))))))))))))) ?_
    clear hk; intro a hk
    refine list_k rfl rfl hk (by decide) (by repeat' (first | exact far_nil _ | refine far_cons (by decide) ?_)) (v := .bool (decide (¬ tOf y = t))) (do_neq rfl Try.underlying53 (hk.at (List.mem_cons_of_mem _ (List.mem_cons_self ..))) (hk.at (List.mem_cons_self ..))) ?_
    clear hk; intro a hk
    refine hK4 _ _ (wp_cond (hk.at (List.mem_cons_self ..)) ?_)
    clear hK4
    have hk2 : Keeps 47 ([(12, .pointer (some ⟨q12, 0, none⟩)), (11, .int .i64 ((k : Nat) : Int)), (17, .int .i64 ((k : Nat) : Int)), (16, .int .i64 ((n : Nat) : Int)), (10, .pointer (some ⟨q10, 0, none⟩)), (9, .int .i64 0), (8, .int .i64 ((k : Nat) : Int)), (7, .pointer (some ⟨q7, 0, none⟩)), (6, .pointer (some ⟨q6, 0, none⟩)), (1, .int .u32 ((t : Nat) : Int)), (0, .slice (some ⟨g, off, none⟩) n cap)]) a := by
      refine ⟨hk.1, hk.2.1, fun x hx => hk.2.2 x ?_⟩
      rcases List.mem_cons.1 hx with rfl | hx
      · exact List.mem_cons_of_mem _ (List.mem_cons_of_mem _ (List.mem_cons_of_mem _ (List.mem_cons_of_mem _ (List.mem_cons_self ..))))
      rcases List.mem_cons.1 hx with rfl | hx
      · exact List.mem_cons_of_mem _ (List.mem_cons_of_mem _ (List.mem_cons_of_mem _ (List.mem_cons_of_mem _ (List.mem_cons_of_mem _ (List.mem_cons_self ..)))))
      rcases List.mem_cons.1 hx with rfl | hx
      · exact List.mem_cons_of_mem _ (List.mem_cons_of_mem _ (List.mem_cons_of_mem _ (List.mem_cons_of_mem _ (List.mem_cons_of_mem _ (List.mem_cons_of_mem _ (List.mem_cons_self ..))))))
      rcases List.mem_cons.1 hx with rfl | hx
      · exact List.mem_cons_of_mem _ (List.mem_cons_of_mem _ (List.mem_cons_of_mem _ (List.mem_cons_of_mem _ (List.mem_cons_of_mem _ (List.mem_cons_of_mem _ (List.mem_cons_of_mem _ (List.mem_cons_self ..)))))))
      rcases List.mem_cons.1 hx with rfl | hx
      · exact List.mem_cons_of_mem _ (List.mem_cons_of_mem _ (List.mem_cons_of_mem _ (List.mem_cons_of_mem _ (List.mem_cons_of_mem _ (List.mem_cons_of_mem _ (List.mem_cons_of_mem _ (List.mem_cons_of_mem _ (List.mem_cons_self ..))))))))
      rcases List.mem_cons.1 hx with rfl | hx
      · exact List.mem_cons_of_mem _ (List.mem_cons_of_mem _ (List.mem_cons_of_mem _ (List.mem_cons_of_mem _ (List.mem_cons_of_mem _ (List.mem_cons_of_mem _ (List.mem_cons_of_mem _ (List.mem_cons_of_mem _ (List.mem_cons_of_mem _ (List.mem_cons_self ..)))))))))
      rcases List.mem_cons.1 hx with rfl | hx
      · exact List.mem_cons_of_mem _ (List.mem_cons_of_mem _ (List.mem_cons_of_mem _ (List.mem_cons_of_mem _ (List.mem_cons_of_mem _ (List.mem_cons_of_mem _ (List.mem_cons_of_mem _ (List.mem_cons_of_mem _ (List.mem_cons_of_mem _ (List.mem_cons_of_mem _ (List.mem_cons_self ..))))))))))
      rcases List.mem_cons.1 hx with rfl | hx
      · exact List.mem_cons_of_mem _ (List.mem_cons_of_mem _ (List.mem_cons_of_mem _ (List.mem_cons_of_mem _ (List.mem_cons_of_mem _ (List.mem_cons_of_mem _ (List.mem_cons_of_mem _ (List.mem_cons_of_mem _ (List.mem_cons_of_mem _ (List.mem_cons_of_mem _ (List.mem_cons_of_mem _ (List.mem_cons_self ..)))))))))))
      rcases List.mem_cons.1 hx with rfl | hx
      · exact List.mem_cons_of_mem _ (List.mem_cons_of_mem _ (List.mem_cons_of_mem _ (List.mem_cons_of_mem _ (List.mem_cons_of_mem _ (List.mem_cons_of_mem _ (List.mem_cons_of_mem _ (List.mem_cons_of_mem _ (List.mem_cons_of_mem _ (List.mem_cons_of_mem _ (List.mem_cons_of_mem _ (List.mem_cons_of_mem _ (List.mem_cons_self ..))))))))))))
      rcases List.mem_cons.1 hx with rfl | hx
      · exact List.mem_cons_of_mem _ (List.mem_cons_of_mem _ (List.mem_cons_of_mem _ (List.mem_cons_of_mem _ (List.mem_cons_of_mem _ (List.mem_cons_of_mem _ (List.mem_cons_of_mem _ (List.mem_cons_of_mem _ (List.mem_cons_of_mem _ (List.mem_cons_of_mem _ (List.mem_cons_of_mem _ (List.mem_cons_of_mem _ (List.mem_cons_of_mem _ (List.mem_cons_self ..)))))))))))))
      rcases List.mem_cons.1 hx with rfl | hx
      · exact List.mem_cons_of_mem _ (List.mem_cons_of_mem _ (List.mem_cons_of_mem _ (List.mem_cons_of_mem _ (List.mem_cons_of_mem _ (List.mem_cons_of_mem _ (List.mem_cons_of_mem _ (List.mem_cons_of_mem _ (List.mem_cons_of_mem _ (List.mem_cons_of_mem _ (List.mem_cons_of_mem _ (List.mem_cons_of_mem _ (List.mem_cons_of_mem _ (List.mem_cons_of_mem _ (List.mem_cons_self ..))))))))))))))
      cases hx
    clear hk
    have hk := hk2
    clear hk2
    by_cases hty : tOf y = t
    case neg =>
      rw [decide_eq_true hty]
      refine wp_seq_k fun K5 hK5 => ?_
      refine wp_region_lit ?_
      refine list_k rfl rfl hk (by decide) (by repeat' (first | exact far_nil _ | refine far_cons (by decide) ?_)) (v := .int .i64 ((k : Nat) : Int)) (do_move rfl (hk.at (List.mem_cons_of_mem _ (List.mem_cons_self ..)))) ?_
      clear hk; intro a hk
      have hk2 : Keeps 47 ([(31, .int .i64 ((k : Nat) : Int)), (12, .pointer (some ⟨q12, 0, none⟩)), (11, .int .i64 ((k : Nat) : Int)), (17, .int .i64 ((k : Nat) : Int)), (16, .int .i64 ((n : Nat) : Int)), (10, .pointer (some ⟨q10, 0, none⟩)), (8, .int .i64 ((k : Nat) : Int)), (7, .pointer (some ⟨q7, 0, none⟩)), (6, .pointer (some ⟨q6, 0, none⟩)), (1, .int .u32 ((t : Nat) : Int)), (0, .slice (some ⟨g, off, none⟩) n cap)]) a := by
        refine ⟨hk.1, hk.2.1, fun x hx => hk.2.2 x ?_⟩
        rcases List.mem_cons.1 hx with rfl | hx
        · exact List.mem_cons_self ..
        rcases List.mem_cons.1 hx with rfl | hx
        · exact List.mem_cons_of_mem _ (List.mem_cons_self ..)
        rcases List.mem_cons.1 hx with rfl | hx
        · exact List.mem_cons_of_mem _ (List.mem_cons_of_mem _ (List.mem_cons_self ..))
        rcases List.mem_cons.1 hx with rfl | hx
        · exact List.mem_cons_of_mem _ (List.mem_cons_of_mem _ (List.mem_cons_of_mem _ (List.mem_cons_self ..)))
        rcases List.mem_cons.1 hx with rfl | hx
        · exact List.mem_cons_of_mem _ (List.mem_cons_of_mem _ (List.mem_cons_of_mem _ (List.mem_cons_of_mem _ (List.mem_cons_self ..))))
        rcases List.mem_cons.1 hx with rfl | hx
        · exact List.mem_cons_of_mem _ (List.mem_cons_of_mem _ (List.mem_cons_of_mem _ (List.mem_cons_of_mem _ (List.mem_cons_of_mem _ (List.mem_cons_self ..)))))
        rcases List.mem_cons.1 hx with rfl | hx
        · exact List.mem_cons_of_mem _ (List.mem_cons_of_mem _ (List.mem_cons_of_mem _ (List.mem_cons_of_mem _ (List.mem_cons_of_mem _ (List.mem_cons_of_mem _ (List.mem_cons_of_mem _ (List.mem_cons_self ..)))))))
        rcases List.mem_cons.1 hx with rfl | hx
        · exact List.mem_cons_of_mem _ (List.mem_cons_of_mem _ (List.mem_cons_of_mem _ (List.mem_cons_of_mem _ (List.mem_cons_of_mem _ (List.mem_cons_of_mem _ (List.mem_cons_of_mem _ (List.mem_cons_of_mem _ (List.mem_cons_self ..))))))))
        rcases List.mem_cons.1 hx with rfl | hx
        · exact List.mem_cons_of_mem _ (List.mem_cons_of_mem _ (List.mem_cons_of_mem _ (List.mem_cons_of_mem _ (List.mem_cons_of_mem _ (List.mem_cons_of_mem _ (List.mem_cons_of_mem _ (List.mem_cons_of_mem _ (List.mem_cons_of_mem _ (List.mem_cons_self ..)))))))))
        rcases List.mem_cons.1 hx with rfl | hx
        · exact List.mem_cons_of_mem _ (List.mem_cons_of_mem _ (List.mem_cons_of_mem _ (List.mem_cons_of_mem _ (List.mem_cons_of_mem _ (List.mem_cons_of_mem _ (List.mem_cons_of_mem _ (List.mem_cons_of_mem _ (List.mem_cons_of_mem _ (List.mem_cons_of_mem _ (List.mem_cons_self ..))))))))))
        rcases List.mem_cons.1 hx with rfl | hx
        · exact List.mem_cons_of_mem _ (List.mem_cons_of_mem _ (List.mem_cons_of_mem _ (List.mem_cons_of_mem _ (List.mem_cons_of_mem _ (List.mem_cons_of_mem _ (List.mem_cons_of_mem _ (List.mem_cons_of_mem _ (List.mem_cons_of_mem _ (List.mem_cons_of_mem _ (List.mem_cons_of_mem _ (List.mem_cons_self ..)))))))))))
        cases hx
      clear hk
      have hk := hk2
      clear hk2
      refine list_k rfl rfl hk (by decide) (by repeat' (first | exact far_nil _ | refine far_cons (by decide) ?_)) (v := .int .i64 ((k : Nat) : Int)) (do_assign rfl (hk.at (List.mem_cons_self ..))) ?_
      clear hk; intro a hk
      refine hK5 _ _ (wp_ret ?_)
      simp only [Exit.inBlock, Exit.then]
      refine ret_tmp2 rfl hk.2.1 (hk.at (t := 8) (v := .int .i64 ((k : Nat) : Int)) (by simp)) (hk.at (t := 9) (v := .int .i64 ((k : Nat) : Int)) (by simp)) ?_
      exact ⟨k, rfl, by omega, hall, hb8⟩
    case pos =>
      rw [decide_eq_false (fun h => h hty)]
      refine wp_skip (hK3 _ _ ?_)
      clear hK3
      refine wp_seq_k fun K3 hK3 => ?_
      refine wp_region_lit ?_
      refine list_k rfl rfl hk (by decide) (by repeat' (first | exact far_nil _ | refine far_cons (by decide) ?_)) (v := .agg (bvs y).toArray) (do_ldA ksArr rfl (hk.at (List.mem_cons_self ..)) B12 Ly) ?_
      clear hk; intro a hk
      refine wp_call rfl (do_call1  rfl (hk.at (List.mem_cons_self ..)) (ent1_pl _)) (payloadN_ok y _ hy) ?_
      rintro e w9 ⟨rfl, hbc⟩
      replace BG := BG.kept hbc
      replace B6 := B6.kept hbc
      replace B7 := B7.kept hbc
      replace B10 := B10.kept hbc
      replace B12 := B12.kept hbc
      have hb9 := hb8.trans (hbc.mono hb8.size)
      clear hbc
      refine ⟨_, rfl, ?_⟩
      refine keep_k (v := .agg (uN (vOf y)).toArray) hk (by decide) (by repeat' (first | exact far_nil _ | refine far_cons (by decide) ?_)) ?_
      clear hk; intro a hk
      obtain ⟨q13, hq13⟩ : ∃ q, q = w9.heap.size := ⟨_, rfl⟩
      have : g < q13 := by rw [hq13]; exact BG.lt
      have : q6 < q13 := by rw [hq13]; exact B6.lt
      have : q7 < q13 := by rw [hq13]; exact B7.lt
      have : q10 < q13 := by rw [hq13]; exact B10.lt
      have : q12 < q13 := by rw [hq13]; exact B12.lt
      have hBq13 : w.heap.size ≤ q13 := by rw [hq13]; exact hb9.size
      refine wp_alloc_blk u128Arr hb9 rfl rfl hq13.symm hBq13 ?_
      intro w10 B13 gg ss hb10
      clear ss hq13
      replace BG := BG.grown gg (by simp)
      replace B6 := B6.grown gg (by simp)
      replace B7 := B7.grown gg (by simp)
      replace B10 := B10.grown gg (by simp)
      replace B12 := B12.grown gg (by simp)
      clear gg
      refine keep_k (v := .pointer (some ⟨q13, 0, none⟩)) hk (by decide) (by repeat' (first | exact far_nil _ | refine far_cons (by decide) ?_)) ?_
      clear hk; intro a hk
      refine wp_store_blk u128Arr hb10 rfl rfl (hk.at (List.mem_cons_self ..)) (cs := uN (vOf y)) (hk.at (List.mem_cons_of_mem _ (List.mem_cons_self ..))) B13 hBq13 rfl rfl (uN_one _) ?_
      intro w11 B13n gg ss hb11
      clear ss
      replace BG := BG.grown gg (by intro e; have := Option.some.inj e; omega)
      replace B6 := B6.grown gg (by intro e; have := Option.some.inj e; omega)
      replace B7 := B7.grown gg (by intro e; have := Option.some.inj e; omega)
      replace B10 := B10.grown gg (by intro e; have := Option.some.inj e; omega)
      replace B12 := B12.grown gg (by intro e; have := Option.some.inj e; omega)
      clear gg B13
      have B13 := B13n
      clear B13n
      refine keep_0 hk ?_
      clear hk; intro a hk
      refine hK3 _ _ ?_
      clear hK3
      have hk2 : Keeps 47 ([(13, .pointer (some ⟨q13, 0, none⟩)), (12, .pointer (some ⟨q12, 0, none⟩)), (11, .int .i64 ((k : Nat) : Int)), (17, .int .i64 ((k : Nat) : Int)), (16, .int .i64 ((n : Nat) : Int)), (10, .pointer (some ⟨q10, 0, none⟩)), (9, .int .i64 0), (8, .int .i64 ((k : Nat) : Int)), (7, .pointer (some ⟨q7, 0, none⟩)), (6, .pointer (some ⟨q6, 0, none⟩)), (1, .int .u32 ((t : Nat) : Int)), (0, .slice (some ⟨g, off, none⟩) n cap)]) a := by
        refine ⟨hk.1, hk.2.1, fun x hx => hk.2.2 x ?_⟩
        rcases List.mem_cons.1 hx with rfl | hx
        · exact List.mem_cons_self ..
        rcases List.mem_cons.1 hx with rfl | hx
        · exact List.mem_cons_of_mem _ (List.mem_cons_of_mem _ (List.mem_cons_of_mem _ (List.mem_cons_self ..)))
        rcases List.mem_cons.1 hx with rfl | hx
        · exact List.mem_cons_of_mem _ (List.mem_cons_of_mem _ (List.mem_cons_of_mem _ (List.mem_cons_of_mem _ (List.mem_cons_self ..))))
        rcases List.mem_cons.1 hx with rfl | hx
        · exact List.mem_cons_of_mem _ (List.mem_cons_of_mem _ (List.mem_cons_of_mem _ (List.mem_cons_of_mem _ (List.mem_cons_of_mem _ (List.mem_cons_self ..)))))
        rcases List.mem_cons.1 hx with rfl | hx
        · exact List.mem_cons_of_mem _ (List.mem_cons_of_mem _ (List.mem_cons_of_mem _ (List.mem_cons_of_mem _ (List.mem_cons_of_mem _ (List.mem_cons_of_mem _ (List.mem_cons_self ..))))))
        rcases List.mem_cons.1 hx with rfl | hx
        · exact List.mem_cons_of_mem _ (List.mem_cons_of_mem _ (List.mem_cons_of_mem _ (List.mem_cons_of_mem _ (List.mem_cons_of_mem _ (List.mem_cons_of_mem _ (List.mem_cons_of_mem _ (List.mem_cons_self ..)))))))
        rcases List.mem_cons.1 hx with rfl | hx
        · exact List.mem_cons_of_mem _ (List.mem_cons_of_mem _ (List.mem_cons_of_mem _ (List.mem_cons_of_mem _ (List.mem_cons_of_mem _ (List.mem_cons_of_mem _ (List.mem_cons_of_mem _ (List.mem_cons_of_mem _ (List.mem_cons_self ..))))))))
        rcases List.mem_cons.1 hx with rfl | hx
        · exact List.mem_cons_of_mem _ (List.mem_cons_of_mem _ (List.mem_cons_of_mem _ (List.mem_cons_of_mem _ (List.mem_cons_of_mem _ (List.mem_cons_of_mem _ (List.mem_cons_of_mem _ (List.mem_cons_of_mem _ (List.mem_cons_of_mem _ (List.mem_cons_self ..)))))))))
        rcases List.mem_cons.1 hx with rfl | hx
        · exact List.mem_cons_of_mem _ (List.mem_cons_of_mem _ (List.mem_cons_of_mem _ (List.mem_cons_of_mem _ (List.mem_cons_of_mem _ (List.mem_cons_of_mem _ (List.mem_cons_of_mem _ (List.mem_cons_of_mem _ (List.mem_cons_of_mem _ (List.mem_cons_of_mem _ (List.mem_cons_self ..))))))))))
        rcases List.mem_cons.1 hx with rfl | hx
        · exact List.mem_cons_of_mem _ (List.mem_cons_of_mem _ (List.mem_cons_of_mem _ (List.mem_cons_of_mem _ (List.mem_cons_of_mem _ (List.mem_cons_of_mem _ (List.mem_cons_of_mem _ (List.mem_cons_of_mem _ (List.mem_cons_of_mem _ (List.mem_cons_of_mem _ (List.mem_cons_of_mem _ (List.mem_cons_self ..)))))))))))
        rcases List.mem_cons.1 hx with rfl | hx
        · exact List.mem_cons_of_mem _ (List.mem_cons_of_mem _ (List.mem_cons_of_mem _ (List.mem_cons_of_mem _ (List.mem_cons_of_mem _ (List.mem_cons_of_mem _ (List.mem_cons_of_mem _ (List.mem_cons_of_mem _ (List.mem_cons_of_mem _ (List.mem_cons_of_mem _ (List.mem_cons_of_mem _ (List.mem_cons_of_mem _ (List.mem_cons_self ..))))))))))))
        rcases List.mem_cons.1 hx with rfl | hx
        · exact List.mem_cons_of_mem _ (List.mem_cons_of_mem _ (List.mem_cons_of_mem _ (List.mem_cons_of_mem _ (List.mem_cons_of_mem _ (List.mem_cons_of_mem _ (List.mem_cons_of_mem _ (List.mem_cons_of_mem _ (List.mem_cons_of_mem _ (List.mem_cons_of_mem _ (List.mem_cons_of_mem _ (List.mem_cons_of_mem _ (List.mem_cons_of_mem _ (List.mem_cons_self ..)))))))))))))
        cases hx
      clear hk
      have hk := hk2
      clear hk2
      have hlt2 : v + k < vOf y := hst.2 hty.symm
      refine wp_seq_k fun K3 hK3 => ?_
      refine wp_seq_k fun K4 hK4 => ?_
      refine region_plan2 (fun w' => Below w11.heap.size w11 w') [(0, 0), (1, 0), (3, 0), (2, 1), (4, 0)] rfl (by kernel_rfl) (by kernel_rfl) rfl (by intro c a d v w h; cases d <;> exact h) (fun _ _ h => h) ?_
      intro OPS w11d hpW hbd
      clear hpW
      refine plan_k rfl hk (by decide) (by repeat' (first | exact far_nil _ | refine far_cons (by decide) ?_)) (v := .agg (uN (vOf y)).toArray) (fun o ho w' hS => do_ldA u128Arr ho (hk.at (List.mem_cons_self ..)) (B13.kept hS) rfl) ?_
      clear hk; intro a hk
      refine plan_k rfl hk (by decide) (by repeat' (first | exact far_nil _ | refine far_cons (by decide) ?_)) (v := .agg (uN (v + k)).toArray) (fun o ho w' hS => do_ldA u128Arr ho (hk.at (List.mem_cons_of_mem _ (List.mem_cons_of_mem _ (List.mem_cons_of_mem _ (List.mem_cons_of_mem _ (List.mem_cons_of_mem _ (List.mem_cons_of_mem _ (List.mem_cons_of_mem _ (List.mem_cons_of_mem _ (List.mem_cons_of_mem _ (List.mem_cons_self ..))))))))))) (B7.kept hS) rfl) ?_
      clear hk; intro a hk
      refine plan_k rfl hk (by decide) (by repeat' (first | exact far_nil _ | refine far_cons (by decide) ?_)) (v := .agg (uN (1)).toArray) (fun o ho w' hS => do_ldA u128Arr ho (hk.at (List.mem_cons_of_mem _ (List.mem_cons_of_mem _ (List.mem_cons_of_mem _ (List.mem_cons_of_mem _ (List.mem_cons_of_mem _ (List.mem_cons_of_mem _ (List.mem_cons_of_mem _ (List.mem_cons_self ..))))))))) (B10.kept hS) rfl) ?_
      clear hk; intro a hk
      refine plan_kw2 rfl fun o ho hd hgd => ?_
      refine wp_call hgd (do_call2 ho (hk.at (List.mem_cons_of_mem _ (List.mem_cons_of_mem _ (List.mem_cons_self ..)))) (hk.at (List.mem_cons_of_mem _ (List.mem_cons_self ..))) (ent2_sub _ _)) (subN_ok (vOf y) (v + k) _ hvy (Nat.le_of_lt hlt2)) ?_
      rintro e w12 ⟨rfl, hbc⟩
      have hS1 := hbd.trans (hbc.mono hbd.size)
      refine ⟨_, rfl, ?_⟩
      rw [hd]
      refine keep_k (v := .agg (uN (vOf y - (v + k))).toArray) hk (by decide) (by repeat' (first | exact far_nil _ | refine far_cons (by decide) ?_)) ?_
      clear hk; intro a hk
      refine ⟨hS1, ?_⟩
      refine plan_k rfl hk (by decide) (by repeat' (first | exact far_nil _ | refine far_cons (by decide) ?_)) (v := .bool (!decide (vOf y - (v + k) = 1))) (fun o ho w' hS => do_neA ho (by kernel_rfl) (hk.at (List.mem_cons_self ..)) (hk.at (List.mem_cons_of_mem _ (List.mem_cons_self ..))) (eqN _ _)) ?_
      clear hk; intro a hk
      refine plan_k0 ?_
      replace BG := BG.kept hS1
      replace B6 := B6.kept hS1
      replace B7 := B7.kept hS1
      replace B10 := B10.kept hS1
      replace B12 := B12.kept hS1
      replace B13 := B13.kept hS1
      have hb12 := hb11.trans (hS1.mono hb11.size)
      clear hS1 hbc hbd
      refine hK4 _ _ (wp_cond (hk.at (List.mem_cons_self ..)) ?_)
      clear hK4
      have hk2 : Keeps 47 ([(13, .pointer (some ⟨q13, 0, none⟩)), (12, .pointer (some ⟨q12, 0, none⟩)), (11, .int .i64 ((k : Nat) : Int)), (17, .int .i64 ((k : Nat) : Int)), (16, .int .i64 ((n : Nat) : Int)), (10, .pointer (some ⟨q10, 0, none⟩)), (9, .int .i64 0), (8, .int .i64 ((k : Nat) : Int)), (7, .pointer (some ⟨q7, 0, none⟩)), (6, .pointer (some ⟨q6, 0, none⟩)), (1, .int .u32 ((t : Nat) : Int)), (0, .slice (some ⟨g, off, none⟩) n cap)]) a := by
        refine ⟨hk.1, hk.2.1, fun x hx => hk.2.2 x ?_⟩
        rcases List.mem_cons.1 hx with rfl | hx
        · exact List.mem_cons_of_mem _ (List.mem_cons_of_mem _ (List.mem_cons_of_mem _ (List.mem_cons_of_mem _ (List.mem_cons_of_mem _ (List.mem_cons_self ..)))))
        rcases List.mem_cons.1 hx with rfl | hx
        · exact List.mem_cons_of_mem _ (List.mem_cons_of_mem _ (List.mem_cons_of_mem _ (List.mem_cons_of_mem _ (List.mem_cons_of_mem _ (List.mem_cons_of_mem _ (List.mem_cons_self ..))))))
        rcases List.mem_cons.1 hx with rfl | hx
        · exact List.mem_cons_of_mem _ (List.mem_cons_of_mem _ (List.mem_cons_of_mem _ (List.mem_cons_of_mem _ (List.mem_cons_of_mem _ (List.mem_cons_of_mem _ (List.mem_cons_of_mem _ (List.mem_cons_self ..)))))))
        rcases List.mem_cons.1 hx with rfl | hx
        · exact List.mem_cons_of_mem _ (List.mem_cons_of_mem _ (List.mem_cons_of_mem _ (List.mem_cons_of_mem _ (List.mem_cons_of_mem _ (List.mem_cons_of_mem _ (List.mem_cons_of_mem _ (List.mem_cons_of_mem _ (List.mem_cons_self ..))))))))
        rcases List.mem_cons.1 hx with rfl | hx
        · exact List.mem_cons_of_mem _ (List.mem_cons_of_mem _ (List.mem_cons_of_mem _ (List.mem_cons_of_mem _ (List.mem_cons_of_mem _ (List.mem_cons_of_mem _ (List.mem_cons_of_mem _ (List.mem_cons_of_mem _ (List.mem_cons_of_mem _ (List.mem_cons_self ..)))))))))
        rcases List.mem_cons.1 hx with rfl | hx
        · exact List.mem_cons_of_mem _ (List.mem_cons_of_mem _ (List.mem_cons_of_mem _ (List.mem_cons_of_mem _ (List.mem_cons_of_mem _ (List.mem_cons_of_mem _ (List.mem_cons_of_mem _ (List.mem_cons_of_mem _ (List.mem_cons_of_mem _ (List.mem_cons_of_mem _ (List.mem_cons_self ..))))))))))
        rcases List.mem_cons.1 hx with rfl | hx
        · exact List.mem_cons_of_mem _ (List.mem_cons_of_mem _ (List.mem_cons_of_mem _ (List.mem_cons_of_mem _ (List.mem_cons_of_mem _ (List.mem_cons_of_mem _ (List.mem_cons_of_mem _ (List.mem_cons_of_mem _ (List.mem_cons_of_mem _ (List.mem_cons_of_mem _ (List.mem_cons_of_mem _ (List.mem_cons_self ..)))))))))))
        rcases List.mem_cons.1 hx with rfl | hx
        · exact List.mem_cons_of_mem _ (List.mem_cons_of_mem _ (List.mem_cons_of_mem _ (List.mem_cons_of_mem _ (List.mem_cons_of_mem _ (List.mem_cons_of_mem _ (List.mem_cons_of_mem _ (List.mem_cons_of_mem _ (List.mem_cons_of_mem _ (List.mem_cons_of_mem _ (List.mem_cons_of_mem _ (List.mem_cons_of_mem _ (List.mem_cons_self ..))))))))))))
        rcases List.mem_cons.1 hx with rfl | hx
        · exact List.mem_cons_of_mem _ (List.mem_cons_of_mem _ (List.mem_cons_of_mem _ (List.mem_cons_of_mem _ (List.mem_cons_of_mem _ (List.mem_cons_of_mem _ (List.mem_cons_of_mem _ (List.mem_cons_of_mem _ (List.mem_cons_of_mem _ (List.mem_cons_of_mem _ (List.mem_cons_of_mem _ (List.mem_cons_of_mem _ (List.mem_cons_of_mem _ (List.mem_cons_self ..)))))))))))))
        rcases List.mem_cons.1 hx with rfl | hx
        · exact List.mem_cons_of_mem _ (List.mem_cons_of_mem _ (List.mem_cons_of_mem _ (List.mem_cons_of_mem _ (List.mem_cons_of_mem _ (List.mem_cons_of_mem _ (List.mem_cons_of_mem _ (List.mem_cons_of_mem _ (List.mem_cons_of_mem _ (List.mem_cons_of_mem _ (List.mem_cons_of_mem _ (List.mem_cons_of_mem _ (List.mem_cons_of_mem _ (List.mem_cons_of_mem _ (List.mem_cons_self ..))))))))))))))
        rcases List.mem_cons.1 hx with rfl | hx
        · exact List.mem_cons_of_mem _ (List.mem_cons_of_mem _ (List.mem_cons_of_mem _ (List.mem_cons_of_mem _ (List.mem_cons_of_mem _ (List.mem_cons_of_mem _ (List.mem_cons_of_mem _ (List.mem_cons_of_mem _ (List.mem_cons_of_mem _ (List.mem_cons_of_mem _ (List.mem_cons_of_mem _ (List.mem_cons_of_mem _ (List.mem_cons_of_mem _ (List.mem_cons_of_mem _ (List.mem_cons_of_mem _ (List.mem_cons_self ..)))))))))))))))
        rcases List.mem_cons.1 hx with rfl | hx
        · exact List.mem_cons_of_mem _ (List.mem_cons_of_mem _ (List.mem_cons_of_mem _ (List.mem_cons_of_mem _ (List.mem_cons_of_mem _ (List.mem_cons_of_mem _ (List.mem_cons_of_mem _ (List.mem_cons_of_mem _ (List.mem_cons_of_mem _ (List.mem_cons_of_mem _ (List.mem_cons_of_mem _ (List.mem_cons_of_mem _ (List.mem_cons_of_mem _ (List.mem_cons_of_mem _ (List.mem_cons_of_mem _ (List.mem_cons_of_mem _ (List.mem_cons_self ..))))))))))))))))
        cases hx
      clear hk
      have hk := hk2
      clear hk2
      by_cases h1 : vOf y - (v + k) = 1
      case neg =>
        rw [decide_eq_false h1]
        show Code.wp _ _ _ _ _
        refine wp_seq_k fun K5 hK5 => ?_
        refine wp_region_lit ?_
        refine list_k rfl rfl hk (by decide) (by repeat' (first | exact far_nil _ | refine far_cons (by decide) ?_)) (v := .int .i64 ((k : Nat) : Int)) (do_move rfl (hk.at (List.mem_cons_of_mem _ (List.mem_cons_of_mem _ (List.mem_cons_self ..))))) ?_
        clear hk; intro a hk
        have hk2 : Keeps 47 ([(39, .int .i64 ((k : Nat) : Int)), (13, .pointer (some ⟨q13, 0, none⟩)), (12, .pointer (some ⟨q12, 0, none⟩)), (11, .int .i64 ((k : Nat) : Int)), (17, .int .i64 ((k : Nat) : Int)), (16, .int .i64 ((n : Nat) : Int)), (10, .pointer (some ⟨q10, 0, none⟩)), (8, .int .i64 ((k : Nat) : Int)), (7, .pointer (some ⟨q7, 0, none⟩)), (6, .pointer (some ⟨q6, 0, none⟩)), (1, .int .u32 ((t : Nat) : Int)), (0, .slice (some ⟨g, off, none⟩) n cap)]) a := by
          refine ⟨hk.1, hk.2.1, fun x hx => hk.2.2 x ?_⟩
          rcases List.mem_cons.1 hx with rfl | hx
          · exact List.mem_cons_self ..
          rcases List.mem_cons.1 hx with rfl | hx
          · exact List.mem_cons_of_mem _ (List.mem_cons_self ..)
          rcases List.mem_cons.1 hx with rfl | hx
          · exact List.mem_cons_of_mem _ (List.mem_cons_of_mem _ (List.mem_cons_self ..))
          rcases List.mem_cons.1 hx with rfl | hx
          · exact List.mem_cons_of_mem _ (List.mem_cons_of_mem _ (List.mem_cons_of_mem _ (List.mem_cons_self ..)))
          rcases List.mem_cons.1 hx with rfl | hx
          · exact List.mem_cons_of_mem _ (List.mem_cons_of_mem _ (List.mem_cons_of_mem _ (List.mem_cons_of_mem _ (List.mem_cons_self ..))))
          rcases List.mem_cons.1 hx with rfl | hx
          · exact List.mem_cons_of_mem _ (List.mem_cons_of_mem _ (List.mem_cons_of_mem _ (List.mem_cons_of_mem _ (List.mem_cons_of_mem _ (List.mem_cons_self ..)))))
          rcases List.mem_cons.1 hx with rfl | hx
          · exact List.mem_cons_of_mem _ (List.mem_cons_of_mem _ (List.mem_cons_of_mem _ (List.mem_cons_of_mem _ (List.mem_cons_of_mem _ (List.mem_cons_of_mem _ (List.mem_cons_self ..))))))
          rcases List.mem_cons.1 hx with rfl | hx
          · exact List.mem_cons_of_mem _ (List.mem_cons_of_mem _ (List.mem_cons_of_mem _ (List.mem_cons_of_mem _ (List.mem_cons_of_mem _ (List.mem_cons_of_mem _ (List.mem_cons_of_mem _ (List.mem_cons_of_mem _ (List.mem_cons_self ..))))))))
          rcases List.mem_cons.1 hx with rfl | hx
          · exact List.mem_cons_of_mem _ (List.mem_cons_of_mem _ (List.mem_cons_of_mem _ (List.mem_cons_of_mem _ (List.mem_cons_of_mem _ (List.mem_cons_of_mem _ (List.mem_cons_of_mem _ (List.mem_cons_of_mem _ (List.mem_cons_of_mem _ (List.mem_cons_self ..)))))))))
          rcases List.mem_cons.1 hx with rfl | hx
          · exact List.mem_cons_of_mem _ (List.mem_cons_of_mem _ (List.mem_cons_of_mem _ (List.mem_cons_of_mem _ (List.mem_cons_of_mem _ (List.mem_cons_of_mem _ (List.mem_cons_of_mem _ (List.mem_cons_of_mem _ (List.mem_cons_of_mem _ (List.mem_cons_of_mem _ (List.mem_cons_self ..))))))))))
          rcases List.mem_cons.1 hx with rfl | hx
          · exact List.mem_cons_of_mem _ (List.mem_cons_of_mem _ (List.mem_cons_of_mem _ (List.mem_cons_of_mem _ (List.mem_cons_of_mem _ (List.mem_cons_of_mem _ (List.mem_cons_of_mem _ (List.mem_cons_of_mem _ (List.mem_cons_of_mem _ (List.mem_cons_of_mem _ (List.mem_cons_of_mem _ (List.mem_cons_self ..)))))))))))
          rcases List.mem_cons.1 hx with rfl | hx
          · exact List.mem_cons_of_mem _ (List.mem_cons_of_mem _ (List.mem_cons_of_mem _ (List.mem_cons_of_mem _ (List.mem_cons_of_mem _ (List.mem_cons_of_mem _ (List.mem_cons_of_mem _ (List.mem_cons_of_mem _ (List.mem_cons_of_mem _ (List.mem_cons_of_mem _ (List.mem_cons_of_mem _ (List.mem_cons_of_mem _ (List.mem_cons_self ..))))))))))))
          cases hx
        clear hk
        have hk := hk2
        clear hk2
        refine list_k rfl rfl hk (by decide) (by repeat' (first | exact far_nil _ | refine far_cons (by decide) ?_)) (v := .int .i64 ((k : Nat) : Int)) (do_assign rfl (hk.at (List.mem_cons_self ..))) ?_
        clear hk; intro a hk
        refine hK5 _ _ (wp_ret ?_)
        simp only [Exit.inBlock, Exit.then]
        refine ret_tmp2 rfl hk.2.1 (hk.at (t := 8) (v := .int .i64 ((k : Nat) : Int)) (by simp)) (hk.at (t := 9) (v := .int .i64 ((k : Nat) : Int)) (by simp)) ?_
        exact ⟨k, rfl, by omega, hall, hb12⟩
      case pos =>
        rw [decide_eq_true h1]
        refine wp_skip (hK3 _ _ ?_)
        clear hK3
        refine wp_seq_k fun K3 hK3 => ?_
        refine wp_region_lit ?_
        refine list_k rfl rfl hk (by decide) (by repeat' (first | exact far_nil _ | refine far_cons (by decide) ?_)) (v := .agg (bvs y).toArray) (do_ldA ksArr rfl (hk.at (List.mem_cons_of_mem _ (List.mem_cons_self ..))) B12 Ly) ?_
        clear hk; intro a hk
        refine wp_store_blk ksArr hb12 rfl rfl (hk.at (List.mem_cons_of_mem _ (List.mem_cons_of_mem _ (List.mem_cons_of_mem _ (List.mem_cons_of_mem _ (List.mem_cons_of_mem _ (List.mem_cons_of_mem _ (List.mem_cons_of_mem _ (List.mem_cons_of_mem _ (List.mem_cons_of_mem _ (List.mem_cons_of_mem _ (List.mem_cons_self ..)))))))))))) (cs := bvs y) (hk.at (List.mem_cons_self ..)) B6 hBq6 L6 Ly (bvs_one _) ?_
        intro w13 B6n gg ss hb13
        clear ss
        replace BG := BG.grown gg (by intro e; have := Option.some.inj e; omega)
        replace B7 := B7.grown gg (by intro e; have := Option.some.inj e; omega)
        replace B10 := B10.grown gg (by intro e; have := Option.some.inj e; omega)
        replace B12 := B12.grown gg (by intro e; have := Option.some.inj e; omega)
        replace B13 := B13.grown gg (by intro e; have := Option.some.inj e; omega)
        clear gg B6
        have B6 := B6n
        clear B6n
        refine keep_0 hk ?_
        clear hk; intro a hk
        refine hK3 _ _ ?_
        clear hK3
        have hk2 : Keeps 47 ([(13, .pointer (some ⟨q13, 0, none⟩)), (12, .pointer (some ⟨q12, 0, none⟩)), (11, .int .i64 ((k : Nat) : Int)), (17, .int .i64 ((k : Nat) : Int)), (16, .int .i64 ((n : Nat) : Int)), (10, .pointer (some ⟨q10, 0, none⟩)), (9, .int .i64 0), (8, .int .i64 ((k : Nat) : Int)), (7, .pointer (some ⟨q7, 0, none⟩)), (6, .pointer (some ⟨q6, 0, none⟩)), (1, .int .u32 ((t : Nat) : Int)), (0, .slice (some ⟨g, off, none⟩) n cap)]) a := by
          refine ⟨hk.1, hk.2.1, fun x hx => hk.2.2 x ?_⟩
          rcases List.mem_cons.1 hx with rfl | hx
          · exact List.mem_cons_of_mem _ (List.mem_cons_self ..)
          rcases List.mem_cons.1 hx with rfl | hx
          · exact List.mem_cons_of_mem _ (List.mem_cons_of_mem _ (List.mem_cons_self ..))
          rcases List.mem_cons.1 hx with rfl | hx
          · exact List.mem_cons_of_mem _ (List.mem_cons_of_mem _ (List.mem_cons_of_mem _ (List.mem_cons_self ..)))
          rcases List.mem_cons.1 hx with rfl | hx
          · exact List.mem_cons_of_mem _ (List.mem_cons_of_mem _ (List.mem_cons_of_mem _ (List.mem_cons_of_mem _ (List.mem_cons_self ..))))
          rcases List.mem_cons.1 hx with rfl | hx
          · exact List.mem_cons_of_mem _ (List.mem_cons_of_mem _ (List.mem_cons_of_mem _ (List.mem_cons_of_mem _ (List.mem_cons_of_mem _ (List.mem_cons_self ..)))))
          rcases List.mem_cons.1 hx with rfl | hx
          · exact List.mem_cons_of_mem _ (List.mem_cons_of_mem _ (List.mem_cons_of_mem _ (List.mem_cons_of_mem _ (List.mem_cons_of_mem _ (List.mem_cons_of_mem _ (List.mem_cons_self ..))))))
          rcases List.mem_cons.1 hx with rfl | hx
          · exact List.mem_cons_of_mem _ (List.mem_cons_of_mem _ (List.mem_cons_of_mem _ (List.mem_cons_of_mem _ (List.mem_cons_of_mem _ (List.mem_cons_of_mem _ (List.mem_cons_of_mem _ (List.mem_cons_self ..)))))))
          rcases List.mem_cons.1 hx with rfl | hx
          · exact List.mem_cons_of_mem _ (List.mem_cons_of_mem _ (List.mem_cons_of_mem _ (List.mem_cons_of_mem _ (List.mem_cons_of_mem _ (List.mem_cons_of_mem _ (List.mem_cons_of_mem _ (List.mem_cons_of_mem _ (List.mem_cons_self ..))))))))
          rcases List.mem_cons.1 hx with rfl | hx
          · exact List.mem_cons_of_mem _ (List.mem_cons_of_mem _ (List.mem_cons_of_mem _ (List.mem_cons_of_mem _ (List.mem_cons_of_mem _ (List.mem_cons_of_mem _ (List.mem_cons_of_mem _ (List.mem_cons_of_mem _ (List.mem_cons_of_mem _ (List.mem_cons_self ..)))))))))
          rcases List.mem_cons.1 hx with rfl | hx
          · exact List.mem_cons_of_mem _ (List.mem_cons_of_mem _ (List.mem_cons_of_mem _ (List.mem_cons_of_mem _ (List.mem_cons_of_mem _ (List.mem_cons_of_mem _ (List.mem_cons_of_mem _ (List.mem_cons_of_mem _ (List.mem_cons_of_mem _ (List.mem_cons_of_mem _ (List.mem_cons_self ..))))))))))
          rcases List.mem_cons.1 hx with rfl | hx
          · exact List.mem_cons_of_mem _ (List.mem_cons_of_mem _ (List.mem_cons_of_mem _ (List.mem_cons_of_mem _ (List.mem_cons_of_mem _ (List.mem_cons_of_mem _ (List.mem_cons_of_mem _ (List.mem_cons_of_mem _ (List.mem_cons_of_mem _ (List.mem_cons_of_mem _ (List.mem_cons_of_mem _ (List.mem_cons_self ..)))))))))))
          rcases List.mem_cons.1 hx with rfl | hx
          · exact List.mem_cons_of_mem _ (List.mem_cons_of_mem _ (List.mem_cons_of_mem _ (List.mem_cons_of_mem _ (List.mem_cons_of_mem _ (List.mem_cons_of_mem _ (List.mem_cons_of_mem _ (List.mem_cons_of_mem _ (List.mem_cons_of_mem _ (List.mem_cons_of_mem _ (List.mem_cons_of_mem _ (List.mem_cons_of_mem _ (List.mem_cons_self ..))))))))))))
          cases hx
        clear hk
        have hk := hk2
        clear hk2
        refine wp_seq_k fun K3 hK3 => ?_
        refine wp_region_lit ?_
        refine list_k rfl rfl hk (by decide) (by repeat' (first | exact far_nil _ | refine far_cons (by decide) ?_)) (v := .agg (uN (vOf y)).toArray) (do_ldA u128Arr rfl (hk.at (List.mem_cons_self ..)) B13 rfl) ?_
        clear hk; intro a hk
        refine wp_store_blk u128Arr hb13 rfl rfl (hk.at (List.mem_cons_of_mem _ (List.mem_cons_of_mem _ (List.mem_cons_of_mem _ (List.mem_cons_of_mem _ (List.mem_cons_of_mem _ (List.mem_cons_of_mem _ (List.mem_cons_of_mem _ (List.mem_cons_of_mem _ (List.mem_cons_of_mem _ (List.mem_cons_self ..))))))))))) (cs := uN (vOf y)) (hk.at (List.mem_cons_self ..)) B7 hBq7 rfl rfl (uN_one _) ?_
        intro w14 B7n gg ss hb14
        clear ss
        replace BG := BG.grown gg (by intro e; have := Option.some.inj e; omega)
        replace B6 := B6.grown gg (by intro e; have := Option.some.inj e; omega)
        replace B10 := B10.grown gg (by intro e; have := Option.some.inj e; omega)
        replace B12 := B12.grown gg (by intro e; have := Option.some.inj e; omega)
        replace B13 := B13.grown gg (by intro e; have := Option.some.inj e; omega)
        clear gg B7
        have B7 := B7n
        clear B7n
        refine keep_0 hk ?_
        clear hk; intro a hk
        refine hK3 _ _ ?_
        clear hK3
        have hk2 : Keeps 47 ([(11, .int .i64 ((k : Nat) : Int)), (17, .int .i64 ((k : Nat) : Int)), (16, .int .i64 ((n : Nat) : Int)), (10, .pointer (some ⟨q10, 0, none⟩)), (9, .int .i64 0), (8, .int .i64 ((k : Nat) : Int)), (7, .pointer (some ⟨q7, 0, none⟩)), (6, .pointer (some ⟨q6, 0, none⟩)), (1, .int .u32 ((t : Nat) : Int)), (0, .slice (some ⟨g, off, none⟩) n cap)]) a := by
          refine ⟨hk.1, hk.2.1, fun x hx => hk.2.2 x ?_⟩
          rcases List.mem_cons.1 hx with rfl | hx
          · exact List.mem_cons_of_mem _ (List.mem_cons_of_mem _ (List.mem_cons_of_mem _ (List.mem_cons_self ..)))
          rcases List.mem_cons.1 hx with rfl | hx
          · exact List.mem_cons_of_mem _ (List.mem_cons_of_mem _ (List.mem_cons_of_mem _ (List.mem_cons_of_mem _ (List.mem_cons_self ..))))
          rcases List.mem_cons.1 hx with rfl | hx
          · exact List.mem_cons_of_mem _ (List.mem_cons_of_mem _ (List.mem_cons_of_mem _ (List.mem_cons_of_mem _ (List.mem_cons_of_mem _ (List.mem_cons_self ..)))))
          rcases List.mem_cons.1 hx with rfl | hx
          · exact List.mem_cons_of_mem _ (List.mem_cons_of_mem _ (List.mem_cons_of_mem _ (List.mem_cons_of_mem _ (List.mem_cons_of_mem _ (List.mem_cons_of_mem _ (List.mem_cons_self ..))))))
          rcases List.mem_cons.1 hx with rfl | hx
          · exact List.mem_cons_of_mem _ (List.mem_cons_of_mem _ (List.mem_cons_of_mem _ (List.mem_cons_of_mem _ (List.mem_cons_of_mem _ (List.mem_cons_of_mem _ (List.mem_cons_of_mem _ (List.mem_cons_self ..)))))))
          rcases List.mem_cons.1 hx with rfl | hx
          · exact List.mem_cons_of_mem _ (List.mem_cons_of_mem _ (List.mem_cons_of_mem _ (List.mem_cons_of_mem _ (List.mem_cons_of_mem _ (List.mem_cons_of_mem _ (List.mem_cons_of_mem _ (List.mem_cons_of_mem _ (List.mem_cons_self ..))))))))
          rcases List.mem_cons.1 hx with rfl | hx
          · exact List.mem_cons_of_mem _ (List.mem_cons_of_mem _ (List.mem_cons_of_mem _ (List.mem_cons_of_mem _ (List.mem_cons_of_mem _ (List.mem_cons_of_mem _ (List.mem_cons_of_mem _ (List.mem_cons_of_mem _ (List.mem_cons_of_mem _ (List.mem_cons_self ..)))))))))
          rcases List.mem_cons.1 hx with rfl | hx
          · exact List.mem_cons_of_mem _ (List.mem_cons_of_mem _ (List.mem_cons_of_mem _ (List.mem_cons_of_mem _ (List.mem_cons_of_mem _ (List.mem_cons_of_mem _ (List.mem_cons_of_mem _ (List.mem_cons_of_mem _ (List.mem_cons_of_mem _ (List.mem_cons_of_mem _ (List.mem_cons_self ..))))))))))
          rcases List.mem_cons.1 hx with rfl | hx
          · exact List.mem_cons_of_mem _ (List.mem_cons_of_mem _ (List.mem_cons_of_mem _ (List.mem_cons_of_mem _ (List.mem_cons_of_mem _ (List.mem_cons_of_mem _ (List.mem_cons_of_mem _ (List.mem_cons_of_mem _ (List.mem_cons_of_mem _ (List.mem_cons_of_mem _ (List.mem_cons_of_mem _ (List.mem_cons_self ..)))))))))))
          rcases List.mem_cons.1 hx with rfl | hx
          · exact List.mem_cons_of_mem _ (List.mem_cons_of_mem _ (List.mem_cons_of_mem _ (List.mem_cons_of_mem _ (List.mem_cons_of_mem _ (List.mem_cons_of_mem _ (List.mem_cons_of_mem _ (List.mem_cons_of_mem _ (List.mem_cons_of_mem _ (List.mem_cons_of_mem _ (List.mem_cons_of_mem _ (List.mem_cons_of_mem _ (List.mem_cons_self ..))))))))))))
          cases hx
        clear hk
        have hk := hk2
        clear hk2
        refine wp_region_lit ?_
        refine list_k rfl rfl hk (by decide) (by repeat' (first | exact far_nil _ | refine far_cons (by decide) ?_)) (v := .int .i64 ((k : Nat) : Int)) (do_move rfl (hk.at (List.mem_cons_of_mem _ (List.mem_cons_of_mem _ (List.mem_cons_of_mem _ (List.mem_cons_of_mem _ (List.mem_cons_of_mem _ (List.mem_cons_self ..)))))))) ?_
        clear hk; intro a hk
        refine list_k rfl rfl hk (by decide) (by repeat' (first | exact far_nil _ | refine far_cons (by decide) ?_)) (v := .int .i64 ((k + 1 : Nat) : Int)) ((do_addN (n := 1) rfl Try.underlying3 (hk.at (List.mem_cons_self ..)) rfl (by rw [IntKind.wrap_i64]; omega))) ?_
        clear hk; intro a hk
        have hk2 : Keeps 47 ([(43, .int .i64 ((k + 1 : Nat) : Int)), (42, .int .i64 ((k : Nat) : Int)), (11, .int .i64 ((k : Nat) : Int)), (17, .int .i64 ((k : Nat) : Int)), (16, .int .i64 ((n : Nat) : Int)), (10, .pointer (some ⟨q10, 0, none⟩)), (9, .int .i64 0), (7, .pointer (some ⟨q7, 0, none⟩)), (6, .pointer (some ⟨q6, 0, none⟩)), (1, .int .u32 ((t : Nat) : Int)), (0, .slice (some ⟨g, off, none⟩) n cap)]) a := by
          refine ⟨hk.1, hk.2.1, fun x hx => hk.2.2 x ?_⟩
          rcases List.mem_cons.1 hx with rfl | hx
          · exact List.mem_cons_self ..
          rcases List.mem_cons.1 hx with rfl | hx
          · exact List.mem_cons_of_mem _ (List.mem_cons_self ..)
          rcases List.mem_cons.1 hx with rfl | hx
          · exact List.mem_cons_of_mem _ (List.mem_cons_of_mem _ (List.mem_cons_self ..))
          rcases List.mem_cons.1 hx with rfl | hx
          · exact List.mem_cons_of_mem _ (List.mem_cons_of_mem _ (List.mem_cons_of_mem _ (List.mem_cons_self ..)))
          rcases List.mem_cons.1 hx with rfl | hx
          · exact List.mem_cons_of_mem _ (List.mem_cons_of_mem _ (List.mem_cons_of_mem _ (List.mem_cons_of_mem _ (List.mem_cons_self ..))))
          rcases List.mem_cons.1 hx with rfl | hx
          · exact List.mem_cons_of_mem _ (List.mem_cons_of_mem _ (List.mem_cons_of_mem _ (List.mem_cons_of_mem _ (List.mem_cons_of_mem _ (List.mem_cons_self ..)))))
          rcases List.mem_cons.1 hx with rfl | hx
          · exact List.mem_cons_of_mem _ (List.mem_cons_of_mem _ (List.mem_cons_of_mem _ (List.mem_cons_of_mem _ (List.mem_cons_of_mem _ (List.mem_cons_of_mem _ (List.mem_cons_self ..))))))
          rcases List.mem_cons.1 hx with rfl | hx
          · exact List.mem_cons_of_mem _ (List.mem_cons_of_mem _ (List.mem_cons_of_mem _ (List.mem_cons_of_mem _ (List.mem_cons_of_mem _ (List.mem_cons_of_mem _ (List.mem_cons_of_mem _ (List.mem_cons_of_mem _ (List.mem_cons_self ..))))))))
          rcases List.mem_cons.1 hx with rfl | hx
          · exact List.mem_cons_of_mem _ (List.mem_cons_of_mem _ (List.mem_cons_of_mem _ (List.mem_cons_of_mem _ (List.mem_cons_of_mem _ (List.mem_cons_of_mem _ (List.mem_cons_of_mem _ (List.mem_cons_of_mem _ (List.mem_cons_of_mem _ (List.mem_cons_self ..)))))))))
          rcases List.mem_cons.1 hx with rfl | hx
          · exact List.mem_cons_of_mem _ (List.mem_cons_of_mem _ (List.mem_cons_of_mem _ (List.mem_cons_of_mem _ (List.mem_cons_of_mem _ (List.mem_cons_of_mem _ (List.mem_cons_of_mem _ (List.mem_cons_of_mem _ (List.mem_cons_of_mem _ (List.mem_cons_of_mem _ (List.mem_cons_self ..))))))))))
          rcases List.mem_cons.1 hx with rfl | hx
          · exact List.mem_cons_of_mem _ (List.mem_cons_of_mem _ (List.mem_cons_of_mem _ (List.mem_cons_of_mem _ (List.mem_cons_of_mem _ (List.mem_cons_of_mem _ (List.mem_cons_of_mem _ (List.mem_cons_of_mem _ (List.mem_cons_of_mem _ (List.mem_cons_of_mem _ (List.mem_cons_of_mem _ (List.mem_cons_self ..)))))))))))
          cases hx
        clear hk
        have hk := hk2
        clear hk2
        refine list_k rfl rfl hk (by decide) (by repeat' (first | exact far_nil _ | refine far_cons (by decide) ?_)) (v := .int .i64 ((k + 1 : Nat) : Int)) (do_assign rfl (hk.at (List.mem_cons_self ..))) ?_
        clear hk; intro a hk
        refine hK8 _ _ ?_
        clear hK8
        have hk2 : Keeps 47 ([(8, .int .i64 ((k + 1 : Nat) : Int)), (11, .int .i64 ((k : Nat) : Int)), (17, .int .i64 ((k : Nat) : Int)), (16, .int .i64 ((n : Nat) : Int)), (10, .pointer (some ⟨q10, 0, none⟩)), (9, .int .i64 0), (7, .pointer (some ⟨q7, 0, none⟩)), (6, .pointer (some ⟨q6, 0, none⟩)), (1, .int .u32 ((t : Nat) : Int)), (0, .slice (some ⟨g, off, none⟩) n cap)]) a := by
          refine ⟨hk.1, hk.2.1, fun x hx => hk.2.2 x ?_⟩
          rcases List.mem_cons.1 hx with rfl | hx
          · exact List.mem_cons_self ..
          rcases List.mem_cons.1 hx with rfl | hx
          · exact List.mem_cons_of_mem _ (List.mem_cons_of_mem _ (List.mem_cons_of_mem _ (List.mem_cons_self ..)))
          rcases List.mem_cons.1 hx with rfl | hx
          · exact List.mem_cons_of_mem _ (List.mem_cons_of_mem _ (List.mem_cons_of_mem _ (List.mem_cons_of_mem _ (List.mem_cons_self ..))))
          rcases List.mem_cons.1 hx with rfl | hx
          · exact List.mem_cons_of_mem _ (List.mem_cons_of_mem _ (List.mem_cons_of_mem _ (List.mem_cons_of_mem _ (List.mem_cons_of_mem _ (List.mem_cons_self ..)))))
          rcases List.mem_cons.1 hx with rfl | hx
          · exact List.mem_cons_of_mem _ (List.mem_cons_of_mem _ (List.mem_cons_of_mem _ (List.mem_cons_of_mem _ (List.mem_cons_of_mem _ (List.mem_cons_of_mem _ (List.mem_cons_self ..))))))
          rcases List.mem_cons.1 hx with rfl | hx
          · exact List.mem_cons_of_mem _ (List.mem_cons_of_mem _ (List.mem_cons_of_mem _ (List.mem_cons_of_mem _ (List.mem_cons_of_mem _ (List.mem_cons_of_mem _ (List.mem_cons_of_mem _ (List.mem_cons_self ..)))))))
          rcases List.mem_cons.1 hx with rfl | hx
          · exact List.mem_cons_of_mem _ (List.mem_cons_of_mem _ (List.mem_cons_of_mem _ (List.mem_cons_of_mem _ (List.mem_cons_of_mem _ (List.mem_cons_of_mem _ (List.mem_cons_of_mem _ (List.mem_cons_of_mem _ (List.mem_cons_self ..))))))))
          rcases List.mem_cons.1 hx with rfl | hx
          · exact List.mem_cons_of_mem _ (List.mem_cons_of_mem _ (List.mem_cons_of_mem _ (List.mem_cons_of_mem _ (List.mem_cons_of_mem _ (List.mem_cons_of_mem _ (List.mem_cons_of_mem _ (List.mem_cons_of_mem _ (List.mem_cons_of_mem _ (List.mem_cons_self ..)))))))))
          rcases List.mem_cons.1 hx with rfl | hx
          · exact List.mem_cons_of_mem _ (List.mem_cons_of_mem _ (List.mem_cons_of_mem _ (List.mem_cons_of_mem _ (List.mem_cons_of_mem _ (List.mem_cons_of_mem _ (List.mem_cons_of_mem _ (List.mem_cons_of_mem _ (List.mem_cons_of_mem _ (List.mem_cons_of_mem _ (List.mem_cons_self ..))))))))))
          rcases List.mem_cons.1 hx with rfl | hx
          · exact List.mem_cons_of_mem _ (List.mem_cons_of_mem _ (List.mem_cons_of_mem _ (List.mem_cons_of_mem _ (List.mem_cons_of_mem _ (List.mem_cons_of_mem _ (List.mem_cons_of_mem _ (List.mem_cons_of_mem _ (List.mem_cons_of_mem _ (List.mem_cons_of_mem _ (List.mem_cons_of_mem _ (List.mem_cons_self ..)))))))))))
          cases hx
        clear hk
        have hk := hk2
        clear hk2
        refine wp_region_lit ?_
        refine list_k rfl rfl hk (by decide) (by repeat' (first | exact far_nil _ | refine far_cons (by decide) ?_)) (v := .int .i64 ((k + 1 : Nat) : Int)) ((do_addN (n := 1) rfl Try.underlying3 (hk.at (List.mem_cons_of_mem _ (List.mem_cons_of_mem _ (List.mem_cons_self ..)))) rfl (by rw [IntKind.wrap_i64]; omega))) ?_
        clear hk; intro a hk
        have hk2 : Keeps 47 ([(44, .int .i64 ((k + 1 : Nat) : Int)), (8, .int .i64 ((k + 1 : Nat) : Int)), (11, .int .i64 ((k : Nat) : Int)), (16, .int .i64 ((n : Nat) : Int)), (10, .pointer (some ⟨q10, 0, none⟩)), (9, .int .i64 0), (7, .pointer (some ⟨q7, 0, none⟩)), (6, .pointer (some ⟨q6, 0, none⟩)), (1, .int .u32 ((t : Nat) : Int)), (0, .slice (some ⟨g, off, none⟩) n cap)]) a := by
          refine ⟨hk.1, hk.2.1, fun x hx => hk.2.2 x ?_⟩
          rcases List.mem_cons.1 hx with rfl | hx
          · exact List.mem_cons_self ..
          rcases List.mem_cons.1 hx with rfl | hx
          · exact List.mem_cons_of_mem _ (List.mem_cons_self ..)
          rcases List.mem_cons.1 hx with rfl | hx
          · exact List.mem_cons_of_mem _ (List.mem_cons_of_mem _ (List.mem_cons_self ..))
          rcases List.mem_cons.1 hx with rfl | hx
          · exact List.mem_cons_of_mem _ (List.mem_cons_of_mem _ (List.mem_cons_of_mem _ (List.mem_cons_of_mem _ (List.mem_cons_self ..))))
          rcases List.mem_cons.1 hx with rfl | hx
          · exact List.mem_cons_of_mem _ (List.mem_cons_of_mem _ (List.mem_cons_of_mem _ (List.mem_cons_of_mem _ (List.mem_cons_of_mem _ (List.mem_cons_self ..)))))
          rcases List.mem_cons.1 hx with rfl | hx
          · exact List.mem_cons_of_mem _ (List.mem_cons_of_mem _ (List.mem_cons_of_mem _ (List.mem_cons_of_mem _ (List.mem_cons_of_mem _ (List.mem_cons_of_mem _ (List.mem_cons_self ..))))))
          rcases List.mem_cons.1 hx with rfl | hx
          · exact List.mem_cons_of_mem _ (List.mem_cons_of_mem _ (List.mem_cons_of_mem _ (List.mem_cons_of_mem _ (List.mem_cons_of_mem _ (List.mem_cons_of_mem _ (List.mem_cons_of_mem _ (List.mem_cons_self ..)))))))
          rcases List.mem_cons.1 hx with rfl | hx
          · exact List.mem_cons_of_mem _ (List.mem_cons_of_mem _ (List.mem_cons_of_mem _ (List.mem_cons_of_mem _ (List.mem_cons_of_mem _ (List.mem_cons_of_mem _ (List.mem_cons_of_mem _ (List.mem_cons_of_mem _ (List.mem_cons_self ..))))))))
          rcases List.mem_cons.1 hx with rfl | hx
          · exact List.mem_cons_of_mem _ (List.mem_cons_of_mem _ (List.mem_cons_of_mem _ (List.mem_cons_of_mem _ (List.mem_cons_of_mem _ (List.mem_cons_of_mem _ (List.mem_cons_of_mem _ (List.mem_cons_of_mem _ (List.mem_cons_of_mem _ (List.mem_cons_self ..)))))))))
          rcases List.mem_cons.1 hx with rfl | hx
          · exact List.mem_cons_of_mem _ (List.mem_cons_of_mem _ (List.mem_cons_of_mem _ (List.mem_cons_of_mem _ (List.mem_cons_of_mem _ (List.mem_cons_of_mem _ (List.mem_cons_of_mem _ (List.mem_cons_of_mem _ (List.mem_cons_of_mem _ (List.mem_cons_of_mem _ (List.mem_cons_self ..))))))))))
          cases hx
        clear hk
        have hk := hk2
        clear hk2
        refine list_k rfl rfl hk (by decide) (by repeat' (first | exact far_nil _ | refine far_cons (by decide) ?_)) (v := .int .i64 ((k + 1 : Nat) : Int)) (do_move rfl (hk.at (List.mem_cons_self ..))) ?_
        clear hk; intro a hk
        have hk2 : Keeps 47 [(17, .int .i64 ((k + 1 : Nat) : Int)), (16, .int .i64 ((n : Nat) : Int)), (10, .pointer (some ⟨q10, 0, none⟩)), (9, .int .i64 0), (8, .int .i64 ((k + 1 : Nat) : Int)), (7, .pointer (some ⟨q7, 0, none⟩)), (6, .pointer (some ⟨q6, 0, none⟩)), (1, .int .u32 ((t : Nat) : Int)), (0, .slice (some ⟨g, off, none⟩) n cap)] a := hk.sub (fun x hx => by simp at hx ⊢; rcases hx with rfl | rfl | rfl | rfl | rfl | rfl | rfl | rfl | rfl <;> simp)
        have hE := hend _ hty (by omega) B6
        refine ⟨⟨k + 1, by omega, hk2, hE.1, by rw [show v + (k + 1) = vOf y by omega]; exact B7, B10, BG, hb14, hE.2⟩, ?_⟩
        rw [hmu, hk2.at (t := 17) (v := .int .i64 ((k + 1 : Nat) : Int)) (by simp)]
        simp [intOf]
        omega
end Go.Proofs.Ytbacbgicfomkbaa
