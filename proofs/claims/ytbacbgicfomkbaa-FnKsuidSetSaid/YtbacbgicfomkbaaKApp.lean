/- Contract of package ksuid's AppendCompressed. -/
import Derived.Test.YtbacbgicfomkbaaKAppL
import Derived.Test.YtbacbgicfomkbaaKSortFn
namespace Go.Proofs.Ytbacbgicfomkbaa
open Go.RowKit
set_option linter.unusedVariables false
set_option linter.unusedSimpArgs false
theorem do_neqT {P : Program} {a : Act} {w : World} {o : Oper} {x y : Operand} {t u : TypeId} {k : IntKind} {m n : Nat} (ho : o.op = .binOp .neq t x y u) (hu : P.underlying t = some (.int k)) (hx : a.eval x = .int k (m : Int)) (hy : a.eval y = .int k (n : Int)) (h : ¬ m = n) : (execOp a.eval o).run P w = .ok (.value (.bool true)) w := by rw [← decide_eq_true h]; exact do_neq ho hu hx hy
theorem byteInfo : ∃ ie, Try.prog.info? 5 = some ie ∧ ie.zero = some (.int .u8 0) ∧ ie.size = 1 := by
  obtain ⟨i, hi, h0, h1, h2⟩ := info_parts info5
  exact ⟨i, hi, h0, h1⟩
set_option maxRecDepth 100000 in
set_option maxHeartbeats 4000000 in
theorem appendC_ok (base gk n cap : Nat) (ks ss : List (List UInt8)) (more : List Value) (sv0 : Value) (w : World) (hkn : ks.length = n) (hn0 : 0 < n) (hn2 : n ≤ 1000) (hcap : n ≤ cap) (hk20 : All20 ks) (hp : ss.Perm ks) (hsrt : ss.Pairwise leL) (hasc : Asc ss)
    (BK : Blk w gk (flatK ks ++ more) 59) (hbase : base ≤ w.heap.size) (HO : OwnB w base 5 sv0 ([])) :
    Calls Try.prog 63 #[sv0, .slice (some ⟨gk, 0, none⟩) n cap] w fun e w' => ∃ (sv : Value) (xs : List UInt8), e = .returned sv ∧ OwnB w' base 5 sv (xs) ∧ Enc 0 0 ss xs ∧ xs.length ≤ 100000 ∧ ∃ w1, w.grownBy w1 (some gk) ∧ Below base w1 w' := by
  obtain ⟨bi, BI⟩ := byteInfo
  have hsn : ss.length = n := by rw [hp.length_eq, hkn]
  have h20 : All20 ss := hk20.perm hp
  go_enter Try.func63, Try.ntmps63
  refine of_keeps 144 [(1, .slice (some ⟨gk, 0, none⟩) n cap), (0, sv0)] ⟨by kernel_rfl, rfl, fun x hx => by simp at hx; rcases hx with rfl | rfl <;> rfl⟩ fun a hk => ?_
  refine wp_seq_k fun K0 hK0 => ?_
  refine wp_region_lit ?_
  refine list_k rfl rfl hk (by decide) (by repeat' (first | exact far_nil _ | refine far_cons (by decide) ?_)) (v := .slice none 0 0) (do_assign rfl rfl) ?_
  clear hk; intro a hk
  refine hK0 _ _ ?_
  clear hK0
  have hk2 : Keeps 144 ([(1, .slice (some ⟨gk, 0, none⟩) n cap), (0, sv0)]) a := by
    refine ⟨hk.1, hk.2.1, fun x hx => hk.2.2 x ?_⟩
    rcases List.mem_cons.1 hx with rfl | hx
    · exact List.mem_cons_of_mem _ (List.mem_cons_self ..)
    rcases List.mem_cons.1 hx with rfl | hx
    · exact List.mem_cons_of_mem _ (List.mem_cons_of_mem _ (List.mem_cons_self ..))
    cases hx
  clear hk
  have hk := hk2
  clear hk2
  refine wp_seq_k fun K1 hK1 => ?_
  refine wp_seq_k fun K2 hK2 => ?_
  refine wp_region_lit ?_
  refine list_k rfl rfl hk (by decide) (by repeat' (first | exact far_nil _ | refine far_cons (by decide) ?_)) (v := .slice (some ⟨gk, 0, none⟩) n cap) (do_move rfl (hk.at (List.mem_cons_self ..))) ?_
  clear hk; intro a hk
  refine list_k rfl rfl hk (by decide) (by repeat' (first | exact far_nil _ | refine far_cons (by decide) ?_)) (v := .int .i64 ((n : Nat) : Int)) (do_lenS rfl (hk.at (List.mem_cons_self ..)) Try.underlying70) ?_
  clear hk; intro a hk
  refine list_k rfl rfl hk (by decide) (by repeat' (first | exact far_nil _ | refine far_cons (by decide) ?_)) (v := .bool true) ((do_neqT (n := 0) rfl Try.underlying3 (hk.at (List.mem_cons_self ..)) rfl (by omega))) ?_
  clear hk; intro a hk
  refine hK2 _ _ (wp_cond_true (hk.at (List.mem_cons_self ..)) ?_)
  clear hK2
  have hk2 : Keeps 144 ([(1, .slice (some ⟨gk, 0, none⟩) n cap), (0, sv0)]) a := by
    refine ⟨hk.1, hk.2.1, fun x hx => hk.2.2 x ?_⟩
    rcases List.mem_cons.1 hx with rfl | hx
    · exact List.mem_cons_of_mem _ (List.mem_cons_of_mem _ (List.mem_cons_of_mem _ (List.mem_cons_self ..)))
    rcases List.mem_cons.1 hx with rfl | hx
    · exact List.mem_cons_of_mem _ (List.mem_cons_of_mem _ (List.mem_cons_of_mem _ (List.mem_cons_of_mem _ (List.mem_cons_self ..))))
    cases hx
  clear hk
  have hk := hk2
  clear hk2
  refine wp_seq_k fun K3 hK3 => ?_
  have HMEET : ∀ (a : Act) (w' : World), Keeps 144 [(1, .slice (some ⟨gk, 0, none⟩) n cap), (0, sv0)] a → Blk w' gk (flatK ss ++ more) 59 → OwnB w' base 5 sv0 ([]) → w.grownBy w' (some gk) → K3 a w' := by
    intro a w1 hk BK HO hG1
    refine hK3 _ _ ?_
    clear hK3
    have hb1 := Below.refl base w1
    have hbase : base ≤ w1.heap.size := Nat.le_trans hbase hG1.size
    refine wp_seq_k fun K3 hK3 => ?_
    refine wp_region_lit ?_
    refine wp_call rfl (do_call2 (u := .int .u64 0) (v := .int .u64 1) rfl rfl rfl (ent2_mk _ _)) (oneN_ok _) ?_
    rintro e w2 ⟨rfl, hbc⟩
    replace BK := BK.kept hbc
    replace HO := OwnB.kept HO hbc
    have hb2 := hb1.trans (hbc.mono (Nat.le_trans hbase hb1.size))
    clear hbc
    refine ⟨_, rfl, ?_⟩
    refine keep_k (v := .agg (uN (1)).toArray) hk (by decide) (by repeat' (first | exact far_nil _ | refine far_cons (by decide) ?_)) ?_
    clear hk; intro a hk
    obtain ⟨q5, hq5⟩ : ∃ q, q = w2.heap.size := ⟨_, rfl⟩
    have : gk < q5 := by rw [hq5]; exact BK.lt
    have hBq5 : base ≤ q5 := by rw [hq5]; exact Nat.le_trans hbase hb2.size
    refine wp_alloc_blk u128Arr hb2 rfl rfl hq5.symm hBq5 ?_
    intro w3 B5 gg ss hb3
    clear ss hq5
    replace BK := BK.grown gg (by simp)
    replace HO := OwnB.kept HO (below_grown gg)
    clear gg
    refine keep_k (v := .pointer (some ⟨q5, 0, none⟩)) hk (by decide) (by repeat' (first | exact far_nil _ | refine far_cons (by decide) ?_)) ?_
    clear hk; intro a hk
    refine wp_store_blk u128Arr hb3 rfl rfl (hk.at (List.mem_cons_self ..)) (cs := uN 1) (hk.at (List.mem_cons_of_mem _ (List.mem_cons_self ..))) B5 hBq5 rfl rfl (uN_one _) ?_
    intro w4 B5n gg ss hb4
    clear ss
    replace BK := BK.grown gg (by intro e; have := Option.some.inj e; omega)
    replace HO := OwnB.keptG HO gg (.inr (fun e => own_ne HO B5 (by decide) e.symm))
    clear gg B5
    have B5 := B5n
    clear B5n
    refine keep_0 hk ?_
    clear hk; intro a hk
    refine hK3 _ _ ?_
    clear hK3
    have hk2 : Keeps 144 ([(5, .pointer (some ⟨q5, 0, none⟩)), (1, .slice (some ⟨gk, 0, none⟩) n cap), (0, sv0)]) a := by
      refine ⟨hk.1, hk.2.1, fun x hx => hk.2.2 x ?_⟩
      rcases List.mem_cons.1 hx with rfl | hx
      · exact List.mem_cons_self ..
      rcases List.mem_cons.1 hx with rfl | hx
      · exact List.mem_cons_of_mem _ (List.mem_cons_of_mem _ (List.mem_cons_self ..))
      rcases List.mem_cons.1 hx with rfl | hx
      · exact List.mem_cons_of_mem _ (List.mem_cons_of_mem _ (List.mem_cons_of_mem _ (List.mem_cons_self ..)))
      cases hx
    clear hk
    have hk := hk2
    clear hk2
    refine wp_seq_k fun K3 hK3 => ?_
    refine wp_region_lit ?_
    refine list_k rfl rfl hk (by decide) (by repeat' (first | exact far_nil _ | refine far_cons (by decide) ?_)) (v := sv0) (do_move rfl (hk.at (List.mem_cons_of_mem _ (List.mem_cons_of_mem _ (List.mem_cons_self ..))))) ?_
    clear hk; intro a hk
    obtain ⟨qa, hqa⟩ : ∃ q, q = w4.heap.size := ⟨_, rfl⟩
    refine wp_byte1 rfl rfl Try.underlying22 BI.1 BI.2.1 BI.2.2 (m := 0) rfl (by decide) hqa.symm ?_
    intro w5 BL gg ss
    replace BK := BK.grown gg (by simp)
    replace HO := OwnB.kept HO (below_grown gg)
    replace B5 := B5.grown gg (by simp)
    have hb5 := hb4.trans ((below_grown gg).mono (Nat.le_trans hbase hb4.size))
    clear gg ss hqa hb4
    refine keep_k (v := .slice (some ⟨qa, 0, none⟩) 1 1) hk (by decide) (by repeat' (first | exact far_nil _ | refine far_cons (by decide) ?_)) ?_
    clear hk; intro a hk
    refine wp_append_rd rfl rfl Try.underlying22 info5 rfl (hk.at (List.mem_cons_self ..)) (hk.at (List.mem_cons_of_mem _ (List.mem_cons_self ..))) HO (BL.rd (by simp)) rfl (by decide) (Nat.le_trans hbase hb5.size) ?_
    intro sv1 w6 HOn gg
    replace BK := BK.grown gg (own_ne HO BK (by decide))
    replace B5 := B5.grown gg (own_ne HO B5 (by decide))
    have hb6 := hb5.grown gg (Nat.le_trans hbase hb5.size) (fun j hj => (HO.lt j hj).1)
    clear gg HO hb5 BL
    have HO := HOn
    clear HOn
    refine keep_k (v := sv1) hk (by decide) (by repeat' (first | exact far_nil _ | refine far_cons (by decide) ?_)) ?_
    clear hk; intro a hk
    have hk2 : Keeps 144 ([(32, sv1), (31, .slice (some ⟨qa, 0, none⟩) 1 1), (30, sv0), (5, .pointer (some ⟨q5, 0, none⟩)), (1, .slice (some ⟨gk, 0, none⟩) n cap)]) a := by
      refine ⟨hk.1, hk.2.1, fun x hx => hk.2.2 x ?_⟩
      rcases List.mem_cons.1 hx with rfl | hx
      · exact List.mem_cons_self ..
      rcases List.mem_cons.1 hx with rfl | hx
      · exact List.mem_cons_of_mem _ (List.mem_cons_self ..)
      rcases List.mem_cons.1 hx with rfl | hx
      · exact List.mem_cons_of_mem _ (List.mem_cons_of_mem _ (List.mem_cons_self ..))
      rcases List.mem_cons.1 hx with rfl | hx
      · exact List.mem_cons_of_mem _ (List.mem_cons_of_mem _ (List.mem_cons_of_mem _ (List.mem_cons_self ..)))
      rcases List.mem_cons.1 hx with rfl | hx
      · exact List.mem_cons_of_mem _ (List.mem_cons_of_mem _ (List.mem_cons_of_mem _ (List.mem_cons_of_mem _ (List.mem_cons_self ..))))
      cases hx
    clear hk
    have hk := hk2
    clear hk2
    refine list_k rfl rfl hk (by decide) (by repeat' (first | exact far_nil _ | refine far_cons (by decide) ?_)) (v := sv1) (do_assign rfl (hk.at (List.mem_cons_self ..))) ?_
    clear hk; intro a hk
    refine hK3 _ _ ?_
    clear hK3
    have hk2 : Keeps 144 ([(0, sv1), (5, .pointer (some ⟨q5, 0, none⟩)), (1, .slice (some ⟨gk, 0, none⟩) n cap)]) a := by
      refine ⟨hk.1, hk.2.1, fun x hx => hk.2.2 x ?_⟩
      rcases List.mem_cons.1 hx with rfl | hx
      · exact List.mem_cons_self ..
      rcases List.mem_cons.1 hx with rfl | hx
      · exact List.mem_cons_of_mem _ (List.mem_cons_of_mem _ (List.mem_cons_of_mem _ (List.mem_cons_of_mem _ (List.mem_cons_self ..))))
      rcases List.mem_cons.1 hx with rfl | hx
      · exact List.mem_cons_of_mem _ (List.mem_cons_of_mem _ (List.mem_cons_of_mem _ (List.mem_cons_of_mem _ (List.mem_cons_of_mem _ (List.mem_cons_self ..)))))
      cases hx
    clear hk
    have hk := hk2
    clear hk2
    have hat0 := flatK_at' h20 0 (by omega) more
    rw [Nat.zero_mul] at hat0
    have hx20 : (ss.getD (0) []).length = 20 := h20.at (by omega)
    have Lx : (bvs (ss.getD (0) [])).length = 20 := by rw [bvs_length, hx20]
    refine wp_seq_k fun K3 hK3 => ?_
    refine wp_region_lit ?_
    refine list_k rfl rfl hk (by decide) (by repeat' (first | exact far_nil _ | refine far_cons (by decide) ?_)) (v := sv1) (do_move rfl (hk.at (List.mem_cons_self ..))) ?_
    clear hk; intro a hk
    refine list_k rfl rfl hk (by decide) (by repeat' (first | exact far_nil _ | refine far_cons (by decide) ?_)) (v := .slice (some ⟨gk, 0, none⟩) n cap) (do_move rfl (hk.at (List.mem_cons_of_mem _ (List.mem_cons_of_mem _ (List.mem_cons_of_mem _ (List.mem_cons_self ..)))))) ?_
    clear hk; intro a hk
    refine list_k rfl rfl hk (by decide) (by repeat' (first | exact far_nil _ | refine far_cons (by decide) ?_)) (v := .pointer (some ⟨gk, 0 + 0 * 20, none⟩)) (do_ixW rfl Try.underlying70 (by kernel_rfl) (hk.at (List.mem_cons_self ..)) 0 rfl (by omega)) ?_
    clear hk; intro a hk
    refine list_k rfl rfl hk (by decide) (by repeat' (first | exact far_nil _ | refine far_cons (by decide) ?_)) (v := .slice (some ⟨gk, 0 + 0 * 20, none⟩) 20 20) (do_arrAll rfl Try.underlying59 (by kernel_rfl) (hk.at (List.mem_cons_self ..)) (by decide)) ?_
    clear hk; intro a hk
    refine wp_append_rd rfl rfl Try.underlying22 info5 rfl (hk.at (List.mem_cons_self ..)) (hk.at (List.mem_cons_of_mem _ (List.mem_cons_of_mem _ (List.mem_cons_of_mem _ (List.mem_cons_self ..))))) HO (rd_part BK (by rw [Nat.zero_mul, Nat.zero_add]; exact hat0) hx20 (by decide)) hx20 (by rw [hx20]; decide) (Nat.le_trans hbase hb6.size) ?_
    intro sv2 w7 HOn gg
    replace BK := BK.grown gg (own_ne HO BK (by decide))
    replace B5 := B5.grown gg (own_ne HO B5 (by decide))
    have hb7 := hb6.grown gg (Nat.le_trans hbase hb6.size) (fun j hj => (HO.lt j hj).1)
    clear gg HO hb6 
    have HO := HOn
    clear HOn
    refine keep_k (v := sv2) hk (by decide) (by repeat' (first | exact far_nil _ | refine far_cons (by decide) ?_)) ?_
    clear hk; intro a hk
    have hk2 : Keeps 144 ([(37, sv2), (36, .slice (some ⟨gk, 0 + 0 * 20, none⟩) 20 20), (35, .pointer (some ⟨gk, 0 + 0 * 20, none⟩)), (34, .slice (some ⟨gk, 0, none⟩) n cap), (33, sv1), (5, .pointer (some ⟨q5, 0, none⟩)), (1, .slice (some ⟨gk, 0, none⟩) n cap)]) a := by
      refine ⟨hk.1, hk.2.1, fun x hx => hk.2.2 x ?_⟩
      rcases List.mem_cons.1 hx with rfl | hx
      · exact List.mem_cons_self ..
      rcases List.mem_cons.1 hx with rfl | hx
      · exact List.mem_cons_of_mem _ (List.mem_cons_self ..)
      rcases List.mem_cons.1 hx with rfl | hx
      · exact List.mem_cons_of_mem _ (List.mem_cons_of_mem _ (List.mem_cons_self ..))
      rcases List.mem_cons.1 hx with rfl | hx
      · exact List.mem_cons_of_mem _ (List.mem_cons_of_mem _ (List.mem_cons_of_mem _ (List.mem_cons_self ..)))
      rcases List.mem_cons.1 hx with rfl | hx
      · exact List.mem_cons_of_mem _ (List.mem_cons_of_mem _ (List.mem_cons_of_mem _ (List.mem_cons_of_mem _ (List.mem_cons_self ..))))
      rcases List.mem_cons.1 hx with rfl | hx
      · exact List.mem_cons_of_mem _ (List.mem_cons_of_mem _ (List.mem_cons_of_mem _ (List.mem_cons_of_mem _ (List.mem_cons_of_mem _ (List.mem_cons_of_mem _ (List.mem_cons_self ..))))))
      rcases List.mem_cons.1 hx with rfl | hx
      · exact List.mem_cons_of_mem _ (List.mem_cons_of_mem _ (List.mem_cons_of_mem _ (List.mem_cons_of_mem _ (List.mem_cons_of_mem _ (List.mem_cons_of_mem _ (List.mem_cons_of_mem _ (List.mem_cons_self ..)))))))
      cases hx
    clear hk
    have hk := hk2
    clear hk2
    refine list_k rfl rfl hk (by decide) (by repeat' (first | exact far_nil _ | refine far_cons (by decide) ?_)) (v := sv2) (do_assign rfl (hk.at (List.mem_cons_self ..))) ?_
    clear hk; intro a hk
    refine hK3 _ _ ?_
    clear hK3
    have hk2 : Keeps 144 ([(0, sv2), (5, .pointer (some ⟨q5, 0, none⟩)), (1, .slice (some ⟨gk, 0, none⟩) n cap)]) a := by
      refine ⟨hk.1, hk.2.1, fun x hx => hk.2.2 x ?_⟩
      rcases List.mem_cons.1 hx with rfl | hx
      · exact List.mem_cons_self ..
      rcases List.mem_cons.1 hx with rfl | hx
      · exact List.mem_cons_of_mem _ (List.mem_cons_of_mem _ (List.mem_cons_of_mem _ (List.mem_cons_of_mem _ (List.mem_cons_of_mem _ (List.mem_cons_of_mem _ (List.mem_cons_self ..))))))
      rcases List.mem_cons.1 hx with rfl | hx
      · exact List.mem_cons_of_mem _ (List.mem_cons_of_mem _ (List.mem_cons_of_mem _ (List.mem_cons_of_mem _ (List.mem_cons_of_mem _ (List.mem_cons_of_mem _ (List.mem_cons_of_mem _ (List.mem_cons_self ..)))))))
      cases hx
    clear hk
    have hk := hk2
    clear hk2
    refine wp_seq_k fun K3 hK3 => ?_
    refine wp_region_lit ?_
    refine list_k rfl rfl hk (by decide) (by repeat' (first | exact far_nil _ | refine far_cons (by decide) ?_)) (v := .slice (some ⟨gk, 0, none⟩) n cap) (do_move rfl (hk.at (List.mem_cons_of_mem _ (List.mem_cons_of_mem _ (List.mem_cons_self ..))))) ?_
    clear hk; intro a hk
    refine list_k rfl rfl hk (by decide) (by repeat' (first | exact far_nil _ | refine far_cons (by decide) ?_)) (v := .pointer (some ⟨gk, 0 + 0 * 20, none⟩)) (do_ixW rfl Try.underlying70 (by kernel_rfl) (hk.at (List.mem_cons_self ..)) 0 rfl (by omega)) ?_
    clear hk; intro a hk
    refine list_k rfl rfl hk (by decide) (by repeat' (first | exact far_nil _ | refine far_cons (by decide) ?_)) (v := .agg (bvs (ss.getD (0) [])).toArray) (do_ldP ksArr rfl (hk.at (List.mem_cons_self ..)) BK (by rw [Nat.zero_mul, Nat.zero_add]; exact hat0) Lx) ?_
    clear hk; intro a hk
    refine wp_call rfl (do_call1  rfl (hk.at (List.mem_cons_self ..)) (ent1_ts _)) (timestamp_ok (ss.getD (0) []) _ hx20) ?_
    rintro e w8 ⟨rfl, hbc⟩
    replace BK := BK.kept hbc
    replace HO := OwnB.kept HO hbc
    replace B5 := B5.kept hbc
    have hb8 := hb7.trans (hbc.mono (Nat.le_trans hbase hb7.size))
    clear hbc
    refine ⟨_, rfl, ?_⟩
    refine keep_k (v := .int .u32 ((tOf (ss.getD (0) []) : Nat) : Int)) hk (by decide) (by repeat' (first | exact far_nil _ | refine far_cons (by decide) ?_)) ?_
    clear hk; intro a hk
    refine list_k rfl rfl hk (by decide) (by repeat' (first | exact far_nil _ | refine far_cons (by decide) ?_)) (v := .int .u32 ((tOf (ss.getD (0) []) : Nat) : Int)) (do_assign rfl (hk.at (List.mem_cons_self ..))) ?_
    clear hk; intro a hk
    refine hK3 _ _ ?_
    clear hK3
    have hk2 : Keeps 144 ([(6, .int .u32 ((tOf (ss.getD (0) []) : Nat) : Int)), (0, sv2), (5, .pointer (some ⟨q5, 0, none⟩)), (1, .slice (some ⟨gk, 0, none⟩) n cap)]) a := by
      refine ⟨hk.1, hk.2.1, fun x hx => hk.2.2 x ?_⟩
      rcases List.mem_cons.1 hx with rfl | hx
      · exact List.mem_cons_self ..
      rcases List.mem_cons.1 hx with rfl | hx
      · exact List.mem_cons_of_mem _ (List.mem_cons_of_mem _ (List.mem_cons_of_mem _ (List.mem_cons_of_mem _ (List.mem_cons_of_mem _ (List.mem_cons_self ..)))))
      rcases List.mem_cons.1 hx with rfl | hx
      · exact List.mem_cons_of_mem _ (List.mem_cons_of_mem _ (List.mem_cons_of_mem _ (List.mem_cons_of_mem _ (List.mem_cons_of_mem _ (List.mem_cons_of_mem _ (List.mem_cons_self ..))))))
      rcases List.mem_cons.1 hx with rfl | hx
      · exact List.mem_cons_of_mem _ (List.mem_cons_of_mem _ (List.mem_cons_of_mem _ (List.mem_cons_of_mem _ (List.mem_cons_of_mem _ (List.mem_cons_of_mem _ (List.mem_cons_of_mem _ (List.mem_cons_self ..)))))))
      cases hx
    clear hk
    have hk := hk2
    clear hk2
    refine wp_seq_k fun K3 hK3 => ?_
    refine wp_region_lit ?_
    refine list_k rfl rfl hk (by decide) (by repeat' (first | exact far_nil _ | refine far_cons (by decide) ?_)) (v := .slice (some ⟨gk, 0, none⟩) n cap) (do_move rfl (hk.at (List.mem_cons_of_mem _ (List.mem_cons_of_mem _ (List.mem_cons_of_mem _ (List.mem_cons_self ..)))))) ?_
    clear hk; intro a hk
    refine list_k rfl rfl hk (by decide) (by repeat' (first | exact far_nil _ | refine far_cons (by decide) ?_)) (v := .pointer (some ⟨gk, 0 + 0 * 20, none⟩)) (do_ixW rfl Try.underlying70 (by kernel_rfl) (hk.at (List.mem_cons_self ..)) 0 rfl (by omega)) ?_
    clear hk; intro a hk
    refine list_k rfl rfl hk (by decide) (by repeat' (first | exact far_nil _ | refine far_cons (by decide) ?_)) (v := .agg (bvs (ss.getD (0) [])).toArray) (do_ldP ksArr rfl (hk.at (List.mem_cons_self ..)) BK (by rw [Nat.zero_mul, Nat.zero_add]; exact hat0) Lx) ?_
    clear hk; intro a hk
    obtain ⟨q7, hq7⟩ : ∃ q, q = w8.heap.size := ⟨_, rfl⟩
    have : gk < q7 := by rw [hq7]; exact BK.lt
    have : q5 < q7 := by rw [hq7]; exact B5.lt
    have hBq7 : base ≤ q7 := by rw [hq7]; exact Nat.le_trans hbase hb8.size
    refine wp_alloc_blk ksArr hb8 rfl rfl hq7.symm hBq7 ?_
    intro w9 B7 gg ss hb9
    clear ss hq7
    replace BK := BK.grown gg (by simp)
    replace HO := OwnB.kept HO (below_grown gg)
    replace B5 := B5.grown gg (by simp)
    clear gg
    refine keep_k (v := .pointer (some ⟨q7, 0, none⟩)) hk (by decide) (by repeat' (first | exact far_nil _ | refine far_cons (by decide) ?_)) ?_
    clear hk; intro a hk
    refine wp_store_blk ksArr hb9 rfl rfl (hk.at (List.mem_cons_self ..)) (cs := bvs (ss.getD (0) [])) (hk.at (List.mem_cons_of_mem _ (List.mem_cons_self ..))) B7 hBq7 rfl Lx (bvs_one _) ?_
    intro w10 B7n gg ss hb10
    clear ss
    replace BK := BK.grown gg (by intro e; have := Option.some.inj e; omega)
    replace HO := OwnB.keptG HO gg (.inr (fun e => own_ne HO B7 (by decide) e.symm))
    replace B5 := B5.grown gg (by intro e; have := Option.some.inj e; omega)
    clear gg B7
    have B7 := B7n
    clear B7n
    refine keep_0 hk ?_
    clear hk; intro a hk
    refine hK3 _ _ ?_
    clear hK3
    have hk2 : Keeps 144 ([(7, .pointer (some ⟨q7, 0, none⟩)), (6, .int .u32 ((tOf (ss.getD (0) []) : Nat) : Int)), (0, sv2), (5, .pointer (some ⟨q5, 0, none⟩)), (1, .slice (some ⟨gk, 0, none⟩) n cap)]) a := by
      refine ⟨hk.1, hk.2.1, fun x hx => hk.2.2 x ?_⟩
      rcases List.mem_cons.1 hx with rfl | hx
      · exact List.mem_cons_self ..
      rcases List.mem_cons.1 hx with rfl | hx
      · exact List.mem_cons_of_mem _ (List.mem_cons_of_mem _ (List.mem_cons_of_mem _ (List.mem_cons_of_mem _ (List.mem_cons_self ..))))
      rcases List.mem_cons.1 hx with rfl | hx
      · exact List.mem_cons_of_mem _ (List.mem_cons_of_mem _ (List.mem_cons_of_mem _ (List.mem_cons_of_mem _ (List.mem_cons_of_mem _ (List.mem_cons_self ..)))))
      rcases List.mem_cons.1 hx with rfl | hx
      · exact List.mem_cons_of_mem _ (List.mem_cons_of_mem _ (List.mem_cons_of_mem _ (List.mem_cons_of_mem _ (List.mem_cons_of_mem _ (List.mem_cons_of_mem _ (List.mem_cons_self ..))))))
      rcases List.mem_cons.1 hx with rfl | hx
      · exact List.mem_cons_of_mem _ (List.mem_cons_of_mem _ (List.mem_cons_of_mem _ (List.mem_cons_of_mem _ (List.mem_cons_of_mem _ (List.mem_cons_of_mem _ (List.mem_cons_of_mem _ (List.mem_cons_self ..)))))))
      cases hx
    clear hk
    have hk := hk2
    clear hk2
    refine wp_seq_k fun K3 hK3 => ?_
    refine wp_region_lit ?_
    refine list_k rfl rfl hk (by decide) (by repeat' (first | exact far_nil _ | refine far_cons (by decide) ?_)) (v := .slice (some ⟨gk, 0, none⟩) n cap) (do_move rfl (hk.at (List.mem_cons_of_mem _ (List.mem_cons_of_mem _ (List.mem_cons_of_mem _ (List.mem_cons_of_mem _ (List.mem_cons_self ..))))))) ?_
    clear hk; intro a hk
    refine list_k rfl rfl hk (by decide) (by repeat' (first | exact far_nil _ | refine far_cons (by decide) ?_)) (v := .pointer (some ⟨gk, 0 + 0 * 20, none⟩)) (do_ixW rfl Try.underlying70 (by kernel_rfl) (hk.at (List.mem_cons_self ..)) 0 rfl (by omega)) ?_
    clear hk; intro a hk
    refine list_k rfl rfl hk (by decide) (by repeat' (first | exact far_nil _ | refine far_cons (by decide) ?_)) (v := .agg (bvs (ss.getD (0) [])).toArray) (do_ldP ksArr rfl (hk.at (List.mem_cons_self ..)) BK (by rw [Nat.zero_mul, Nat.zero_add]; exact hat0) Lx) ?_
    clear hk; intro a hk
    refine wp_call rfl (do_call1  rfl (hk.at (List.mem_cons_self ..)) (ent1_pl _)) (payloadN_ok (ss.getD (0) []) _ hx20) ?_
    rintro e w11 ⟨rfl, hbc⟩
    replace BK := BK.kept hbc
    replace HO := OwnB.kept HO hbc
    replace B5 := B5.kept hbc
    replace B7 := B7.kept hbc
    have hb11 := hb10.trans (hbc.mono (Nat.le_trans hbase hb10.size))
    clear hbc
    refine ⟨_, rfl, ?_⟩
    refine keep_k (v := .agg (uN (vOf (ss.getD (0) []))).toArray) hk (by decide) (by repeat' (first | exact far_nil _ | refine far_cons (by decide) ?_)) ?_
    clear hk; intro a hk
    obtain ⟨q8, hq8⟩ : ∃ q, q = w11.heap.size := ⟨_, rfl⟩
    have : gk < q8 := by rw [hq8]; exact BK.lt
    have : q5 < q8 := by rw [hq8]; exact B5.lt
    have : q7 < q8 := by rw [hq8]; exact B7.lt
    have hBq8 : base ≤ q8 := by rw [hq8]; exact Nat.le_trans hbase hb11.size
    refine wp_alloc_blk u128Arr hb11 rfl rfl hq8.symm hBq8 ?_
    intro w12 B8 gg ss hb12
    clear ss hq8
    replace BK := BK.grown gg (by simp)
    replace HO := OwnB.kept HO (below_grown gg)
    replace B5 := B5.grown gg (by simp)
    replace B7 := B7.grown gg (by simp)
    clear gg
    refine keep_k (v := .pointer (some ⟨q8, 0, none⟩)) hk (by decide) (by repeat' (first | exact far_nil _ | refine far_cons (by decide) ?_)) ?_
    clear hk; intro a hk
    refine wp_store_blk u128Arr hb12 rfl rfl (hk.at (List.mem_cons_self ..)) (cs := uN (vOf (ss.getD (0) []))) (hk.at (List.mem_cons_of_mem _ (List.mem_cons_self ..))) B8 hBq8 rfl rfl (uN_one _) ?_
    intro w13 B8n gg ss hb13
    clear ss
    replace BK := BK.grown gg (by intro e; have := Option.some.inj e; omega)
    replace HO := OwnB.keptG HO gg (.inr (fun e => own_ne HO B8 (by decide) e.symm))
    replace B5 := B5.grown gg (by intro e; have := Option.some.inj e; omega)
    replace B7 := B7.grown gg (by intro e; have := Option.some.inj e; omega)
    clear gg B8
    have B8 := B8n
    clear B8n
    refine keep_0 hk ?_
    clear hk; intro a hk
    refine hK3 _ _ ?_
    clear hK3
    have hk2 : Keeps 144 ([(8, .pointer (some ⟨q8, 0, none⟩)), (7, .pointer (some ⟨q7, 0, none⟩)), (6, .int .u32 ((tOf (ss.getD (0) []) : Nat) : Int)), (0, sv2), (5, .pointer (some ⟨q5, 0, none⟩)), (1, .slice (some ⟨gk, 0, none⟩) n cap)]) a := by
      refine ⟨hk.1, hk.2.1, fun x hx => hk.2.2 x ?_⟩
      rcases List.mem_cons.1 hx with rfl | hx
      · exact List.mem_cons_self ..
      rcases List.mem_cons.1 hx with rfl | hx
      · exact List.mem_cons_of_mem _ (List.mem_cons_of_mem _ (List.mem_cons_of_mem _ (List.mem_cons_of_mem _ (List.mem_cons_of_mem _ (List.mem_cons_self ..)))))
      rcases List.mem_cons.1 hx with rfl | hx
      · exact List.mem_cons_of_mem _ (List.mem_cons_of_mem _ (List.mem_cons_of_mem _ (List.mem_cons_of_mem _ (List.mem_cons_of_mem _ (List.mem_cons_of_mem _ (List.mem_cons_self ..))))))
      rcases List.mem_cons.1 hx with rfl | hx
      · exact List.mem_cons_of_mem _ (List.mem_cons_of_mem _ (List.mem_cons_of_mem _ (List.mem_cons_of_mem _ (List.mem_cons_of_mem _ (List.mem_cons_of_mem _ (List.mem_cons_of_mem _ (List.mem_cons_self ..)))))))
      rcases List.mem_cons.1 hx with rfl | hx
      · exact List.mem_cons_of_mem _ (List.mem_cons_of_mem _ (List.mem_cons_of_mem _ (List.mem_cons_of_mem _ (List.mem_cons_of_mem _ (List.mem_cons_of_mem _ (List.mem_cons_of_mem _ (List.mem_cons_of_mem _ (List.mem_cons_self ..))))))))
      rcases List.mem_cons.1 hx with rfl | hx
      · exact List.mem_cons_of_mem _ (List.mem_cons_of_mem _ (List.mem_cons_of_mem _ (List.mem_cons_of_mem _ (List.mem_cons_of_mem _ (List.mem_cons_of_mem _ (List.mem_cons_of_mem _ (List.mem_cons_of_mem _ (List.mem_cons_of_mem _ (List.mem_cons_self ..)))))))))
      cases hx
    clear hk
    have hk := hk2
    clear hk2
    refine wp_seq_k fun K3 hK3 => ?_
    refine wp_region_lit ?_
    refine list_k rfl rfl hk (by decide) (by repeat' (first | exact far_nil _ | refine far_cons (by decide) ?_)) (v := .int .i64 1) (do_assign rfl rfl) ?_
    clear hk; intro a hk
    refine hK3 _ _ ?_
    clear hK3
    have HE0 : ∀ b, Enc (tOf (ss.getD (0) [])) (vOf (ss.getD (0) [])) (ss.drop (0 + 1)) b → Enc 0 0 ss (([] ++ [UInt8.ofNat 0] ++ (ss.getD (0) [])) ++ b) := by
      intro b hb
      have e0 : ss = (ss.getD (0) []) :: ss.drop (0 + 1) := by
        have := drop_at (ks := ss) (i := 0) (by omega)
        rwa [List.drop_zero] at this
      have := Enc.raw 0 0 (ss.getD (0) []) (ss.drop (0 + 1)) b hx20 hb
      rw [← e0] at this
      exact this
    have hxl : ([] ++ [UInt8.ofNat 0] ++ (ss.getD (0) [])).length ≤ 40 * (0 + 1) := by rw [List.length_append, hx20]; decide
    obtain ⟨xs0, hxs0⟩ : ∃ xs0, xs0 = [] ++ [UInt8.ofNat 0] ++ (ss.getD (0) []) := ⟨_, rfl⟩
    rw [← hxs0] at HO HE0 hxl
    refine wp_block ?_
    refine wp_loop (fun a' w' => ∃ (j : Nat) (sv : Value) (xs : List UInt8), j + 1 ≤ n ∧ Keeps 144 [(9, .int .i64 ((j + 1 : Nat) : Int)), (8, .pointer (some ⟨q8, 0, none⟩)), (7, .pointer (some ⟨q7, 0, none⟩)), (6, .int .u32 ((tOf (ss.getD (j) []) : Nat) : Int)), (5, .pointer (some ⟨q5, 0, none⟩)), (1, .slice (some ⟨gk, 0, none⟩) n cap), (0, sv)] a' ∧ Blk w' q5 (uN 1) 77 ∧ Blk w' q7 (bvs (ss.getD (j) [])) 59 ∧ Blk w' q8 (uN (vOf (ss.getD (j) []))) 77 ∧ Blk w' gk (flatK ss ++ more) 59 ∧ OwnB w' base 5 sv (xs) ∧ xs.length ≤ 40 * (j + 1) ∧ Below base w1 w' ∧ ∀ b, Enc (tOf (ss.getD (j) [])) (vOf (ss.getD (j) [])) (ss.drop (j + 1)) b → Enc 0 0 ss (xs ++ b)) (fun a' _ => n - (intOf (a'.eval (.tmp 9))).toNat) ⟨0, sv2, xs0, by omega, hk.sub (fun x hx => by simp at hx ⊢; rcases hx with rfl | rfl | rfl | rfl | rfl | rfl | rfl <;> simp), B5, B7, B8, BK, HO, hxl, hb13, HE0⟩ ?_
    clear hk B5 B7 B8 BK HO hxl hb13 HE0 hat0 hx20 Lx
    rintro a w5 ⟨j, sv, xs, hjn, hk, B5, B7, B8, BK, HO, hxl, hb5, HE⟩
    have hmu : (intOf (a.eval (.tmp 9))).toNat = j + 1 := by
      rw [hk.at (t := 9) (v := .int .i64 ((j + 1 : Nat) : Int)) (by simp)]
      simp [intOf]
    refine wp_seq_k fun K4 hK4 => ?_
    refine wp_seq_k fun K5 hK5 => ?_
    refine wp_region_lit ?_
    refine list_k rfl rfl hk (by decide) (by repeat' (first | exact far_nil _ | refine far_cons (by decide) ?_)) (v := .int .i64 ((j + 1 : Nat) : Int)) (do_move rfl (hk.at (List.mem_cons_self ..))) ?_
    clear hk; intro a hk
    refine list_k rfl rfl hk (by decide) (by repeat' (first | exact far_nil _ | refine far_cons (by decide) ?_)) (v := .slice (some ⟨gk, 0, none⟩) n cap) (do_move rfl (hk.at (List.mem_cons_of_mem _ (List.mem_cons_of_mem _ (List.mem_cons_of_mem _ (List.mem_cons_of_mem _ (List.mem_cons_of_mem _ (List.mem_cons_of_mem _ (List.mem_cons_self ..))))))))) ?_
    clear hk; intro a hk
    refine list_k rfl rfl hk (by decide) (by repeat' (first | exact far_nil _ | refine far_cons (by decide) ?_)) (v := .int .i64 ((n : Nat) : Int)) (do_lenS rfl (hk.at (List.mem_cons_self ..)) Try.underlying70) ?_
    clear hk; intro a hk
    refine list_k rfl rfl hk (by decide) (by repeat' (first | exact far_nil _ | refine far_cons (by decide) ?_)) (v := .bool (decide (¬ j + 1 = n))) (do_neq rfl Try.underlying3 (hk.at (List.mem_cons_of_mem _ (List.mem_cons_of_mem _ (List.mem_cons_self ..)))) (hk.at (List.mem_cons_self ..))) ?_
    clear hk; intro a hk
    refine hK5 _ _ ?_
    clear hK5
    by_cases hlt : j + 1 = n
    case pos =>
      refine wp_cond_false ((hk.at (List.mem_cons_self ..)).trans (congrArg Value.bool (decide_eq_false (fun h => h hlt)))) ?_
      refine wp_exit ?_
      simp only [Exit.inBlock, Exit.then, if_true]
      refine hK1 _ _ ?_
      clear hK1 hK4
      refine wp_seq_k fun K7 hK7 => ?_
      refine wp_region_lit ?_
      refine list_k rfl rfl hk (by decide) (by repeat' (first | exact far_nil _ | refine far_cons (by decide) ?_)) (v := sv) (do_move rfl (hk.at (List.mem_cons_of_mem _ (List.mem_cons_of_mem _ (List.mem_cons_of_mem _ (List.mem_cons_of_mem _ (List.mem_cons_of_mem _ (List.mem_cons_of_mem _ (List.mem_cons_of_mem _ (List.mem_cons_of_mem _ (List.mem_cons_of_mem _ (List.mem_cons_of_mem _ (List.mem_cons_self ..))))))))))))) ?_
      clear hk; intro a hk
      refine list_k rfl rfl hk (by decide) (by repeat' (first | exact far_nil _ | refine far_cons (by decide) ?_)) (v := sv) (do_assign rfl (hk.at (List.mem_cons_self ..))) ?_
      clear hk; intro a hk
      refine hK7 _ _ (wp_ret ?_)
      have hE := HE [] (by rw [List.drop_of_length_le (by omega)]; exact Enc.nil _ _)
      rw [List.append_nil] at hE
      exact ret_tmp1 rfl hk.2.1 (hk.at (List.mem_cons_self ..)) ⟨sv, xs, rfl, HO, hE, by omega, w1, hG1, hb5⟩
    case neg =>
      refine wp_cond_true ((hk.at (List.mem_cons_self ..)).trans (congrArg Value.bool (decide_eq_true hlt))) ?_
      have hk2 : Keeps 144 ([(9, .int .i64 ((j + 1 : Nat) : Int)), (8, .pointer (some ⟨q8, 0, none⟩)), (7, .pointer (some ⟨q7, 0, none⟩)), (6, .int .u32 ((tOf (ss.getD (j) []) : Nat) : Int)), (5, .pointer (some ⟨q5, 0, none⟩)), (1, .slice (some ⟨gk, 0, none⟩) n cap), (0, sv)]) a := by
        refine ⟨hk.1, hk.2.1, fun x hx => hk.2.2 x ?_⟩
        rcases List.mem_cons.1 hx with rfl | hx
        · exact List.mem_cons_of_mem _ (List.mem_cons_of_mem _ (List.mem_cons_of_mem _ (List.mem_cons_of_mem _ (List.mem_cons_self ..))))
        rcases List.mem_cons.1 hx with rfl | hx
        · exact List.mem_cons_of_mem _ (List.mem_cons_of_mem _ (List.mem_cons_of_mem _ (List.mem_cons_of_mem _ (List.mem_cons_of_mem _ (List.mem_cons_self ..)))))
        rcases List.mem_cons.1 hx with rfl | hx
        · exact List.mem_cons_of_mem _ (List.mem_cons_of_mem _ (List.mem_cons_of_mem _ (List.mem_cons_of_mem _ (List.mem_cons_of_mem _ (List.mem_cons_of_mem _ (List.mem_cons_self ..))))))
        rcases List.mem_cons.1 hx with rfl | hx
        · exact List.mem_cons_of_mem _ (List.mem_cons_of_mem _ (List.mem_cons_of_mem _ (List.mem_cons_of_mem _ (List.mem_cons_of_mem _ (List.mem_cons_of_mem _ (List.mem_cons_of_mem _ (List.mem_cons_self ..)))))))
        rcases List.mem_cons.1 hx with rfl | hx
        · exact List.mem_cons_of_mem _ (List.mem_cons_of_mem _ (List.mem_cons_of_mem _ (List.mem_cons_of_mem _ (List.mem_cons_of_mem _ (List.mem_cons_of_mem _ (List.mem_cons_of_mem _ (List.mem_cons_of_mem _ (List.mem_cons_self ..))))))))
        rcases List.mem_cons.1 hx with rfl | hx
        · exact List.mem_cons_of_mem _ (List.mem_cons_of_mem _ (List.mem_cons_of_mem _ (List.mem_cons_of_mem _ (List.mem_cons_of_mem _ (List.mem_cons_of_mem _ (List.mem_cons_of_mem _ (List.mem_cons_of_mem _ (List.mem_cons_of_mem _ (List.mem_cons_self ..)))))))))
        rcases List.mem_cons.1 hx with rfl | hx
        · exact List.mem_cons_of_mem _ (List.mem_cons_of_mem _ (List.mem_cons_of_mem _ (List.mem_cons_of_mem _ (List.mem_cons_of_mem _ (List.mem_cons_of_mem _ (List.mem_cons_of_mem _ (List.mem_cons_of_mem _ (List.mem_cons_of_mem _ (List.mem_cons_of_mem _ (List.mem_cons_self ..))))))))))
        cases hx
      clear hk
      have hk := hk2
      clear hk2
      refine wp_skip (hK4 _ _ ?_)
      clear hK1 hK4
      have hj2 : j + 1 < ss.length := by omega
      have hst := hasc.step h20 j hj2
      have hlx : (ss.getD (j) []).length = 20 := h20.at (by omega)
      have hy : (ss.getD (j + 1) []).length = 20 := h20.at hj2
      have hne : ¬ (ss.getD (j + 1) []) = (ss.getD (j) []) := by
        intro e
        have := hasc j hj2
        rw [e] at this
        omega
      have HQ : ∀ w, (Op.equalIn 10000 59 (.agg (bvs (ss.getD (j + 1) [])).toArray) (.agg (bvs (ss.getD (j) [])).toArray)).run Try.prog w = .ok false w := by
        intro w
        rw [eqK _ _ hy hlx, decide_eq_false hne]
      have hmid := flatK_at' h20 (j + 1) hj2 more
      have Ly : (bvs (ss.getD (j + 1) [])).length = 20 := by rw [bvs_length, hy]
      have L7 : (bvs (ss.getD (j) [])).length = 20 := by rw [bvs_length, hlx]
      have hvy := vOf_lt _ hy
      have hty := tOf_lt (ss.getD (j + 1) [])
      have hdy : ((bvs (ss.getD (j + 1) [])).drop 4).take 16 = bvs ((ss.getD (j + 1) []).drop 4) := by
        have h16 : ((bvs (ss.getD (j + 1) [])).drop 4).length = 16 := by rw [List.length_drop, Ly]
        rw [List.take_of_length_le (by omega)]
        simp [bvs]
      obtain ⟨x, hxe⟩ : ∃ x, x = (ss.getD (j) []) := ⟨_, rfl⟩
      obtain ⟨y, hye⟩ : ∃ y, y = (ss.getD (j + 1) []) := ⟨_, rfl⟩
      rw [← hxe] at B7 B8 HE hst HQ L7 hlx hk
      rw [← hye] at hst hy HQ hmid Ly hvy hty hdy
      clear hne
      refine wp_seq_k fun K8 hK8 => wp_block ?_
      refine wp_seq_k fun K4 hK4 => ?_
      refine wp_region_lit ?_
      refine list_k rfl rfl hk (by decide) (by repeat' (first | exact far_nil _ | refine far_cons (by decide) ?_)) (v := .slice (some ⟨gk, 0, none⟩) n cap) (do_move rfl (hk.at (List.mem_cons_of_mem _ (List.mem_cons_of_mem _ (List.mem_cons_of_mem _ (List.mem_cons_of_mem _ (List.mem_cons_of_mem _ (List.mem_cons_self ..)))))))) ?_
      clear hk; intro a hk
      refine list_k rfl rfl hk (by decide) (by repeat' (first | exact far_nil _ | refine far_cons (by decide) ?_)) (v := .int .i64 ((j + 1 : Nat) : Int)) (do_move rfl (hk.at (List.mem_cons_of_mem _ (List.mem_cons_self ..)))) ?_
      clear hk; intro a hk
      refine list_k rfl rfl hk (by decide) (by repeat' (first | exact far_nil _ | refine far_cons (by decide) ?_)) (v := .pointer (some ⟨gk, 0 + (j + 1) * 20, none⟩)) (do_ixW rfl Try.underlying70 (by kernel_rfl) (hk.at (List.mem_cons_of_mem _ (List.mem_cons_self ..))) (j + 1) (hk.at (List.mem_cons_self ..)) (by omega)) ?_
      clear hk; intro a hk
      refine list_k rfl rfl hk (by decide) (by repeat' (first | exact far_nil _ | refine far_cons (by decide) ?_)) (v := .agg (bvs y).toArray) (do_ldP ksArr rfl (hk.at (List.mem_cons_self ..)) BK (by rw [Nat.zero_add]; exact hmid) Ly) ?_
      clear hk; intro a hk
      obtain ⟨q10, hq10⟩ : ∃ q, q = w5.heap.size := ⟨_, rfl⟩
      have : gk < q10 := by rw [hq10]; exact BK.lt
      have : q5 < q10 := by rw [hq10]; exact B5.lt
      have : q7 < q10 := by rw [hq10]; exact B7.lt
      have : q8 < q10 := by rw [hq10]; exact B8.lt
      have hBq10 : base ≤ q10 := by rw [hq10]; exact Nat.le_trans hbase hb5.size
      refine wp_alloc_blk ksArr hb5 rfl rfl hq10.symm hBq10 ?_
      intro w6 B10 gg ss hb6
      clear ss hq10
      replace BK := BK.grown gg (by simp)
      replace HO := OwnB.kept HO (below_grown gg)
      replace B5 := B5.grown gg (by simp)
      replace B7 := B7.grown gg (by simp)
      replace B8 := B8.grown gg (by simp)
      clear gg
      refine keep_k (v := .pointer (some ⟨q10, 0, none⟩)) hk (by decide) (by repeat' (first | exact far_nil _ | refine far_cons (by decide) ?_)) ?_
      clear hk; intro a hk
      refine wp_store_blk ksArr hb6 rfl rfl (hk.at (List.mem_cons_self ..)) (cs := bvs y) (hk.at (List.mem_cons_of_mem _ (List.mem_cons_self ..))) B10 hBq10 rfl Ly (bvs_one _) ?_
      intro w7 B10n gg ss hb7
      clear ss
      replace BK := BK.grown gg (by intro e; have := Option.some.inj e; omega)
      replace HO := OwnB.keptG HO gg (.inr (fun e => own_ne HO B10 (by decide) e.symm))
      replace B5 := B5.grown gg (by intro e; have := Option.some.inj e; omega)
      replace B7 := B7.grown gg (by intro e; have := Option.some.inj e; omega)
      replace B8 := B8.grown gg (by intro e; have := Option.some.inj e; omega)
      clear gg B10
      have B10 := B10n
      clear B10n
      refine keep_0 hk ?_
      clear hk; intro a hk
      refine hK4 _ _ ?_
      clear hK4
      have hk2 : Keeps 144 ([(10, .pointer (some ⟨q10, 0, none⟩)), (9, .int .i64 ((j + 1 : Nat) : Int)), (8, .pointer (some ⟨q8, 0, none⟩)), (7, .pointer (some ⟨q7, 0, none⟩)), (6, .int .u32 ((tOf x : Nat) : Int)), (5, .pointer (some ⟨q5, 0, none⟩)), (1, .slice (some ⟨gk, 0, none⟩) n cap), (0, sv)]) a := by
        refine ⟨hk.1, hk.2.1, fun x hx => hk.2.2 x ?_⟩
        rcases List.mem_cons.1 hx with rfl | hx
        · exact List.mem_cons_self ..
        rcases List.mem_cons.1 hx with rfl | hx
        · exact List.mem_cons_of_mem _ (List.mem_cons_of_mem _ (List.mem_cons_of_mem _ (List.mem_cons_of_mem _ (List.mem_cons_of_mem _ (List.mem_cons_self ..)))))
        rcases List.mem_cons.1 hx with rfl | hx
        · exact List.mem_cons_of_mem _ (List.mem_cons_of_mem _ (List.mem_cons_of_mem _ (List.mem_cons_of_mem _ (List.mem_cons_of_mem _ (List.mem_cons_of_mem _ (List.mem_cons_self ..))))))
        rcases List.mem_cons.1 hx with rfl | hx
        · exact List.mem_cons_of_mem _ (List.mem_cons_of_mem _ (List.mem_cons_of_mem _ (List.mem_cons_of_mem _ (List.mem_cons_of_mem _ (List.mem_cons_of_mem _ (List.mem_cons_of_mem _ (List.mem_cons_self ..)))))))
        rcases List.mem_cons.1 hx with rfl | hx
        · exact List.mem_cons_of_mem _ (List.mem_cons_of_mem _ (List.mem_cons_of_mem _ (List.mem_cons_of_mem _ (List.mem_cons_of_mem _ (List.mem_cons_of_mem _ (List.mem_cons_of_mem _ (List.mem_cons_of_mem _ (List.mem_cons_self ..))))))))
        rcases List.mem_cons.1 hx with rfl | hx
        · exact List.mem_cons_of_mem _ (List.mem_cons_of_mem _ (List.mem_cons_of_mem _ (List.mem_cons_of_mem _ (List.mem_cons_of_mem _ (List.mem_cons_of_mem _ (List.mem_cons_of_mem _ (List.mem_cons_of_mem _ (List.mem_cons_of_mem _ (List.mem_cons_self ..)))))))))
        rcases List.mem_cons.1 hx with rfl | hx
        · exact List.mem_cons_of_mem _ (List.mem_cons_of_mem _ (List.mem_cons_of_mem _ (List.mem_cons_of_mem _ (List.mem_cons_of_mem _ (List.mem_cons_of_mem _ (List.mem_cons_of_mem _ (List.mem_cons_of_mem _ (List.mem_cons_of_mem _ (List.mem_cons_of_mem _ (List.mem_cons_self ..))))))))))
        rcases List.mem_cons.1 hx with rfl | hx
        · exact List.mem_cons_of_mem _ (List.mem_cons_of_mem _ (List.mem_cons_of_mem _ (List.mem_cons_of_mem _ (List.mem_cons_of_mem _ (List.mem_cons_of_mem _ (List.mem_cons_of_mem _ (List.mem_cons_of_mem _ (List.mem_cons_of_mem _ (List.mem_cons_of_mem _ (List.mem_cons_of_mem _ (List.mem_cons_self ..)))))))))))
        cases hx
      clear hk
      have hk := hk2
      clear hk2
      refine wp_seq_k fun K4 hK4 => ?_
      refine wp_seq_k fun K5 hK5 => ?_
      refine wp_region_lit ?_
      refine list_k rfl rfl hk (by decide) (by repeat' (first | exact far_nil _ | refine far_cons (by decide) ?_)) (v := .agg (bvs y).toArray) (do_ldA ksArr rfl (hk.at (List.mem_cons_self ..)) B10 Ly) ?_
      clear hk; intro a hk
      refine list_k rfl rfl hk (by decide) (by repeat' (first | exact far_nil _ | refine far_cons (by decide) ?_)) (v := .agg (bvs x).toArray) (do_ldA ksArr rfl (hk.at (List.mem_cons_of_mem _ (List.mem_cons_of_mem _ (List.mem_cons_of_mem _ (List.mem_cons_of_mem _ (List.mem_cons_self ..)))))) B7 L7) ?_
      clear hk; intro a hk
      refine list_k rfl rfl hk (by decide) (by repeat' (first | exact far_nil _ | refine far_cons (by decide) ?_)) (v := .bool false) (do_eqA rfl (by kernel_rfl) (hk.at (List.mem_cons_of_mem _ (List.mem_cons_self ..))) (hk.at (List.mem_cons_self ..)) HQ) ?_
      clear hk; intro a hk
      refine hK5 _ _ (wp_cond_false (hk.at (List.mem_cons_self ..)) (wp_skip (hK4 _ _ ?_)))
      clear hK5 hK4
      have hk2 : Keeps 144 ([(10, .pointer (some ⟨q10, 0, none⟩)), (9, .int .i64 ((j + 1 : Nat) : Int)), (8, .pointer (some ⟨q8, 0, none⟩)), (7, .pointer (some ⟨q7, 0, none⟩)), (6, .int .u32 ((tOf x : Nat) : Int)), (5, .pointer (some ⟨q5, 0, none⟩)), (1, .slice (some ⟨gk, 0, none⟩) n cap), (0, sv)]) a := by
        refine ⟨hk.1, hk.2.1, fun x hx => hk.2.2 x ?_⟩
        rcases List.mem_cons.1 hx with rfl | hx
        · exact List.mem_cons_of_mem _ (List.mem_cons_of_mem _ (List.mem_cons_of_mem _ (List.mem_cons_self ..)))
        rcases List.mem_cons.1 hx with rfl | hx
        · exact List.mem_cons_of_mem _ (List.mem_cons_of_mem _ (List.mem_cons_of_mem _ (List.mem_cons_of_mem _ (List.mem_cons_self ..))))
        rcases List.mem_cons.1 hx with rfl | hx
        · exact List.mem_cons_of_mem _ (List.mem_cons_of_mem _ (List.mem_cons_of_mem _ (List.mem_cons_of_mem _ (List.mem_cons_of_mem _ (List.mem_cons_self ..)))))
        rcases List.mem_cons.1 hx with rfl | hx
        · exact List.mem_cons_of_mem _ (List.mem_cons_of_mem _ (List.mem_cons_of_mem _ (List.mem_cons_of_mem _ (List.mem_cons_of_mem _ (List.mem_cons_of_mem _ (List.mem_cons_self ..))))))
        rcases List.mem_cons.1 hx with rfl | hx
        · exact List.mem_cons_of_mem _ (List.mem_cons_of_mem _ (List.mem_cons_of_mem _ (List.mem_cons_of_mem _ (List.mem_cons_of_mem _ (List.mem_cons_of_mem _ (List.mem_cons_of_mem _ (List.mem_cons_self ..)))))))
        rcases List.mem_cons.1 hx with rfl | hx
        · exact List.mem_cons_of_mem _ (List.mem_cons_of_mem _ (List.mem_cons_of_mem _ (List.mem_cons_of_mem _ (List.mem_cons_of_mem _ (List.mem_cons_of_mem _ (List.mem_cons_of_mem _ (List.mem_cons_of_mem _ (List.mem_cons_self ..))))))))
        rcases List.mem_cons.1 hx with rfl | hx
        · exact List.mem_cons_of_mem _ (List.mem_cons_of_mem _ (List.mem_cons_of_mem _ (List.mem_cons_of_mem _ (List.mem_cons_of_mem _ (List.mem_cons_of_mem _ (List.mem_cons_of_mem _ (List.mem_cons_of_mem _ (List.mem_cons_of_mem _ (List.mem_cons_self ..)))))))))
        rcases List.mem_cons.1 hx with rfl | hx
        · exact List.mem_cons_of_mem _ (List.mem_cons_of_mem _ (List.mem_cons_of_mem _ (List.mem_cons_of_mem _ (List.mem_cons_of_mem _ (List.mem_cons_of_mem _ (List.mem_cons_of_mem _ (List.mem_cons_of_mem _ (List.mem_cons_of_mem _ (List.mem_cons_of_mem _ (List.mem_cons_self ..))))))))))
        cases hx
      clear hk
      have hk := hk2
      clear hk2
      refine wp_seq_k fun K4 hK4 => ?_
      refine wp_region_lit ?_
      refine list_k rfl rfl hk (by decide) (by repeat' (first | exact far_nil _ | refine far_cons (by decide) ?_)) (v := .agg (bvs y).toArray) (do_ldA ksArr rfl (hk.at (List.mem_cons_self ..)) B10 Ly) ?_
      clear hk; intro a hk
      refine wp_call rfl (do_call1  rfl (hk.at (List.mem_cons_self ..)) (ent1_ts _)) (timestamp_ok y _ hy) ?_
      rintro e w8 ⟨rfl, hbc⟩
      replace BK := BK.kept hbc
      replace HO := OwnB.kept HO hbc
      replace B5 := B5.kept hbc
      replace B7 := B7.kept hbc
      replace B8 := B8.kept hbc
      replace B10 := B10.kept hbc
      have hb8 := hb7.trans (hbc.mono (Nat.le_trans hbase hb7.size))
      clear hbc
      refine ⟨_, rfl, ?_⟩
      refine keep_k (v := .int .u32 ((tOf y : Nat) : Int)) hk (by decide) (by repeat' (first | exact far_nil _ | refine far_cons (by decide) ?_)) ?_
      clear hk; intro a hk
      refine list_k rfl rfl hk (by decide) (by repeat' (first | exact far_nil _ | refine far_cons (by decide) ?_)) (v := .int .u32 ((tOf y : Nat) : Int)) (do_assign rfl (hk.at (List.mem_cons_self ..))) ?_
      clear hk; intro a hk
      refine hK4 _ _ ?_
      clear hK4
      have hk2 : Keeps 144 ([(11, .int .u32 ((tOf y : Nat) : Int)), (10, .pointer (some ⟨q10, 0, none⟩)), (9, .int .i64 ((j + 1 : Nat) : Int)), (8, .pointer (some ⟨q8, 0, none⟩)), (7, .pointer (some ⟨q7, 0, none⟩)), (6, .int .u32 ((tOf x : Nat) : Int)), (5, .pointer (some ⟨q5, 0, none⟩)), (1, .slice (some ⟨gk, 0, none⟩) n cap), (0, sv)]) a := by
        refine ⟨hk.1, hk.2.1, fun x hx => hk.2.2 x ?_⟩
        rcases List.mem_cons.1 hx with rfl | hx
        · exact List.mem_cons_self ..
        rcases List.mem_cons.1 hx with rfl | hx
        · exact List.mem_cons_of_mem _ (List.mem_cons_of_mem _ (List.mem_cons_of_mem _ (List.mem_cons_self ..)))
        rcases List.mem_cons.1 hx with rfl | hx
        · exact List.mem_cons_of_mem _ (List.mem_cons_of_mem _ (List.mem_cons_of_mem _ (List.mem_cons_of_mem _ (List.mem_cons_self ..))))
        rcases List.mem_cons.1 hx with rfl | hx
        · exact List.mem_cons_of_mem _ (List.mem_cons_of_mem _ (List.mem_cons_of_mem _ (List.mem_cons_of_mem _ (List.mem_cons_of_mem _ (List.mem_cons_self ..)))))
        rcases List.mem_cons.1 hx with rfl | hx
        · exact List.mem_cons_of_mem _ (List.mem_cons_of_mem _ (List.mem_cons_of_mem _ (List.mem_cons_of_mem _ (List.mem_cons_of_mem _ (List.mem_cons_of_mem _ (List.mem_cons_self ..))))))
        rcases List.mem_cons.1 hx with rfl | hx
        · exact List.mem_cons_of_mem _ (List.mem_cons_of_mem _ (List.mem_cons_of_mem _ (List.mem_cons_of_mem _ (List.mem_cons_of_mem _ (List.mem_cons_of_mem _ (List.mem_cons_of_mem _ (List.mem_cons_self ..)))))))
        rcases List.mem_cons.1 hx with rfl | hx
        · exact List.mem_cons_of_mem _ (List.mem_cons_of_mem _ (List.mem_cons_of_mem _ (List.mem_cons_of_mem _ (List.mem_cons_of_mem _ (List.mem_cons_of_mem _ (List.mem_cons_of_mem _ (List.mem_cons_of_mem _ (List.mem_cons_self ..))))))))
        rcases List.mem_cons.1 hx with rfl | hx
        · exact List.mem_cons_of_mem _ (List.mem_cons_of_mem _ (List.mem_cons_of_mem _ (List.mem_cons_of_mem _ (List.mem_cons_of_mem _ (List.mem_cons_of_mem _ (List.mem_cons_of_mem _ (List.mem_cons_of_mem _ (List.mem_cons_of_mem _ (List.mem_cons_self ..)))))))))
        rcases List.mem_cons.1 hx with rfl | hx
        · exact List.mem_cons_of_mem _ (List.mem_cons_of_mem _ (List.mem_cons_of_mem _ (List.mem_cons_of_mem _ (List.mem_cons_of_mem _ (List.mem_cons_of_mem _ (List.mem_cons_of_mem _ (List.mem_cons_of_mem _ (List.mem_cons_of_mem _ (List.mem_cons_of_mem _ (List.mem_cons_self ..))))))))))
        cases hx
      clear hk
      have hk := hk2
      clear hk2
      refine wp_seq_k fun K4 hK4 => ?_
      refine wp_region_lit ?_
      refine list_k rfl rfl hk (by decide) (by repeat' (first | exact far_nil _ | refine far_cons (by decide) ?_)) (v := .agg (bvs y).toArray) (do_ldA ksArr rfl (hk.at (List.mem_cons_of_mem _ (List.mem_cons_self ..))) B10 Ly) ?_
      clear hk; intro a hk
      refine wp_call rfl (do_call1  rfl (hk.at (List.mem_cons_self ..)) (ent1_pl _)) (payloadN_ok y _ hy) ?_
      rintro e w9 ⟨rfl, hbc⟩
      replace BK := BK.kept hbc
      replace HO := OwnB.kept HO hbc
      replace B5 := B5.kept hbc
      replace B7 := B7.kept hbc
      replace B8 := B8.kept hbc
      replace B10 := B10.kept hbc
      have hb9 := hb8.trans (hbc.mono (Nat.le_trans hbase hb8.size))
      clear hbc
      refine ⟨_, rfl, ?_⟩
      refine keep_k (v := .agg (uN (vOf y)).toArray) hk (by decide) (by repeat' (first | exact far_nil _ | refine far_cons (by decide) ?_)) ?_
      clear hk; intro a hk
      obtain ⟨q12, hq12⟩ : ∃ q, q = w9.heap.size := ⟨_, rfl⟩
      have : gk < q12 := by rw [hq12]; exact BK.lt
      have : q5 < q12 := by rw [hq12]; exact B5.lt
      have : q7 < q12 := by rw [hq12]; exact B7.lt
      have : q8 < q12 := by rw [hq12]; exact B8.lt
      have : q10 < q12 := by rw [hq12]; exact B10.lt
      have hBq12 : base ≤ q12 := by rw [hq12]; exact Nat.le_trans hbase hb9.size
      refine wp_alloc_blk u128Arr hb9 rfl rfl hq12.symm hBq12 ?_
      intro w10 B12 gg ss hb10
      clear ss hq12
      replace BK := BK.grown gg (by simp)
      replace HO := OwnB.kept HO (below_grown gg)
      replace B5 := B5.grown gg (by simp)
      replace B7 := B7.grown gg (by simp)
      replace B8 := B8.grown gg (by simp)
      replace B10 := B10.grown gg (by simp)
      clear gg
      refine keep_k (v := .pointer (some ⟨q12, 0, none⟩)) hk (by decide) (by repeat' (first | exact far_nil _ | refine far_cons (by decide) ?_)) ?_
      clear hk; intro a hk
      refine wp_store_blk u128Arr hb10 rfl rfl (hk.at (List.mem_cons_self ..)) (cs := uN (vOf y)) (hk.at (List.mem_cons_of_mem _ (List.mem_cons_self ..))) B12 hBq12 rfl rfl (uN_one _) ?_
      intro w11 B12n gg ss hb11
      clear ss
      replace BK := BK.grown gg (by intro e; have := Option.some.inj e; omega)
      replace HO := OwnB.keptG HO gg (.inr (fun e => own_ne HO B12 (by decide) e.symm))
      replace B5 := B5.grown gg (by intro e; have := Option.some.inj e; omega)
      replace B7 := B7.grown gg (by intro e; have := Option.some.inj e; omega)
      replace B8 := B8.grown gg (by intro e; have := Option.some.inj e; omega)
      replace B10 := B10.grown gg (by intro e; have := Option.some.inj e; omega)
      clear gg B12
      have B12 := B12n
      clear B12n
      refine keep_0 hk ?_
      clear hk; intro a hk
      refine hK4 _ _ ?_
      clear hK4
      have hk2 : Keeps 144 ([(12, .pointer (some ⟨q12, 0, none⟩)), (11, .int .u32 ((tOf y : Nat) : Int)), (10, .pointer (some ⟨q10, 0, none⟩)), (9, .int .i64 ((j + 1 : Nat) : Int)), (8, .pointer (some ⟨q8, 0, none⟩)), (7, .pointer (some ⟨q7, 0, none⟩)), (6, .int .u32 ((tOf x : Nat) : Int)), (5, .pointer (some ⟨q5, 0, none⟩)), (1, .slice (some ⟨gk, 0, none⟩) n cap), (0, sv)]) a := by
        refine ⟨hk.1, hk.2.1, fun x hx => hk.2.2 x ?_⟩
        rcases List.mem_cons.1 hx with rfl | hx
        · exact List.mem_cons_self ..
        rcases List.mem_cons.1 hx with rfl | hx
        · exact List.mem_cons_of_mem _ (List.mem_cons_of_mem _ (List.mem_cons_of_mem _ (List.mem_cons_self ..)))
        rcases List.mem_cons.1 hx with rfl | hx
        · exact List.mem_cons_of_mem _ (List.mem_cons_of_mem _ (List.mem_cons_of_mem _ (List.mem_cons_of_mem _ (List.mem_cons_self ..))))
        rcases List.mem_cons.1 hx with rfl | hx
        · exact List.mem_cons_of_mem _ (List.mem_cons_of_mem _ (List.mem_cons_of_mem _ (List.mem_cons_of_mem _ (List.mem_cons_of_mem _ (List.mem_cons_self ..)))))
        rcases List.mem_cons.1 hx with rfl | hx
        · exact List.mem_cons_of_mem _ (List.mem_cons_of_mem _ (List.mem_cons_of_mem _ (List.mem_cons_of_mem _ (List.mem_cons_of_mem _ (List.mem_cons_of_mem _ (List.mem_cons_self ..))))))
        rcases List.mem_cons.1 hx with rfl | hx
        · exact List.mem_cons_of_mem _ (List.mem_cons_of_mem _ (List.mem_cons_of_mem _ (List.mem_cons_of_mem _ (List.mem_cons_of_mem _ (List.mem_cons_of_mem _ (List.mem_cons_of_mem _ (List.mem_cons_self ..)))))))
        rcases List.mem_cons.1 hx with rfl | hx
        · exact List.mem_cons_of_mem _ (List.mem_cons_of_mem _ (List.mem_cons_of_mem _ (List.mem_cons_of_mem _ (List.mem_cons_of_mem _ (List.mem_cons_of_mem _ (List.mem_cons_of_mem _ (List.mem_cons_of_mem _ (List.mem_cons_self ..))))))))
        rcases List.mem_cons.1 hx with rfl | hx
        · exact List.mem_cons_of_mem _ (List.mem_cons_of_mem _ (List.mem_cons_of_mem _ (List.mem_cons_of_mem _ (List.mem_cons_of_mem _ (List.mem_cons_of_mem _ (List.mem_cons_of_mem _ (List.mem_cons_of_mem _ (List.mem_cons_of_mem _ (List.mem_cons_self ..)))))))))
        rcases List.mem_cons.1 hx with rfl | hx
        · exact List.mem_cons_of_mem _ (List.mem_cons_of_mem _ (List.mem_cons_of_mem _ (List.mem_cons_of_mem _ (List.mem_cons_of_mem _ (List.mem_cons_of_mem _ (List.mem_cons_of_mem _ (List.mem_cons_of_mem _ (List.mem_cons_of_mem _ (List.mem_cons_of_mem _ (List.mem_cons_self ..))))))))))
        rcases List.mem_cons.1 hx with rfl | hx
        · exact List.mem_cons_of_mem _ (List.mem_cons_of_mem _ (List.mem_cons_of_mem _ (List.mem_cons_of_mem _ (List.mem_cons_of_mem _ (List.mem_cons_of_mem _ (List.mem_cons_of_mem _ (List.mem_cons_of_mem _ (List.mem_cons_of_mem _ (List.mem_cons_of_mem _ (List.mem_cons_of_mem _ (List.mem_cons_self ..)))))))))))
        cases hx
      clear hk
      have hk := hk2
      clear hk2
      refine wp_seq_k fun K4 hK4 => ?_
      have HEND : ∀ (a : Act) (w' : World) (i2 : Nat) (sw : Value) (ys : List UInt8), j + 1 ≤ i2 → i2 < n → Keeps 144 [(12, .pointer (some ⟨q12, 0, none⟩)), (10, .pointer (some ⟨q10, 0, none⟩)), (9, .int .i64 ((i2 : Nat) : Int)), (8, .pointer (some ⟨q8, 0, none⟩)), (7, .pointer (some ⟨q7, 0, none⟩)), (6, .int .u32 ((tOf (ss.getD (i2) []) : Nat) : Int)), (5, .pointer (some ⟨q5, 0, none⟩)), (1, .slice (some ⟨gk, 0, none⟩) n cap), (0, sw)] a → Blk w' q12 (uN (vOf (ss.getD (i2) []))) 77 → Blk w' q10 (bvs (ss.getD (i2) [])) 59 → Blk w' q5 (uN 1) 77 → Blk w' q7 (bvs x) 59 → Blk w' q8 (uN (vOf x)) 77 → Blk w' gk (flatK ss ++ more) 59 → OwnB w' base 5 sw (ys) → ys.length ≤ 40 * (i2 + 1) → Below base w1 w' → (∀ b, Enc (tOf (ss.getD (i2) [])) (vOf (ss.getD (i2) [])) (ss.drop (i2 + 1)) b → Enc 0 0 ss (ys ++ b)) → K4 a w' := by
        intro a w20 i2 sw ys hji hin hk B12 B10 B5 B7 B8 BK HO hyl hb20 HE2
        refine hK4 _ _ ?_
        clear hK4
        have hz : (ss.getD (i2) []).length = 20 := h20.at (by omega)
        have Lz : (bvs (ss.getD (i2) [])).length = 20 := by rw [bvs_length, hz]
        refine wp_seq_k fun K5 hK5 => ?_
        refine wp_region_lit ?_
        refine list_k rfl rfl hk (by decide) (by repeat' (first | exact far_nil _ | refine far_cons (by decide) ?_)) (v := .agg (bvs (ss.getD (i2) [])).toArray) (do_ldA ksArr rfl (hk.at (List.mem_cons_of_mem _ (List.mem_cons_self ..))) B10 Lz) ?_
        clear hk; intro a hk
        refine wp_store_blk ksArr hb20 rfl rfl (hk.at (List.mem_cons_of_mem _ (List.mem_cons_of_mem _ (List.mem_cons_of_mem _ (List.mem_cons_of_mem _ (List.mem_cons_of_mem _ (List.mem_cons_self ..))))))) (cs := bvs (ss.getD (i2) [])) (hk.at (List.mem_cons_self ..)) B7 hBq7 L7 Lz (bvs_one _) ?_
        intro w21 B7n gg ss hb21
        clear ss
        replace B12 := B12.grown gg (by intro e; have := Option.some.inj e; omega)
        replace B10 := B10.grown gg (by intro e; have := Option.some.inj e; omega)
        replace B5 := B5.grown gg (by intro e; have := Option.some.inj e; omega)
        replace B8 := B8.grown gg (by intro e; have := Option.some.inj e; omega)
        replace BK := BK.grown gg (by intro e; have := Option.some.inj e; omega)
        replace HO := OwnB.keptG HO gg (.inr (fun e => own_ne HO B7 (by decide) e.symm))
        clear gg B7
        have B7 := B7n
        clear B7n
        refine keep_0 hk ?_
        clear hk; intro a hk
        refine hK5 _ _ ?_
        clear hK5
        have hk2 : Keeps 144 ([(12, .pointer (some ⟨q12, 0, none⟩)), (10, .pointer (some ⟨q10, 0, none⟩)), (9, .int .i64 ((i2 : Nat) : Int)), (8, .pointer (some ⟨q8, 0, none⟩)), (7, .pointer (some ⟨q7, 0, none⟩)), (6, .int .u32 ((tOf (ss.getD (i2) []) : Nat) : Int)), (5, .pointer (some ⟨q5, 0, none⟩)), (1, .slice (some ⟨gk, 0, none⟩) n cap), (0, sw)]) a := by
          refine ⟨hk.1, hk.2.1, fun x hx => hk.2.2 x ?_⟩
          rcases List.mem_cons.1 hx with rfl | hx
          · exact List.mem_cons_of_mem _ (List.mem_cons_self ..)
          rcases List.mem_cons.1 hx with rfl | hx
          · exact List.mem_cons_of_mem _ (List.mem_cons_of_mem _ (List.mem_cons_self ..))
          rcases List.mem_cons.1 hx with rfl | hx
          · exact List.mem_cons_of_mem _ (List.mem_cons_of_mem _ (List.mem_cons_of_mem _ (List.mem_cons_self ..)))
          rcases List.mem_cons.1 hx with rfl | hx
          · exact List.mem_cons_of_mem _ (List.mem_cons_of_mem _ (List.mem_cons_of_mem _ (List.mem_cons_of_mem _ (List.mem_cons_self ..))))
          rcases List.mem_cons.1 hx with rfl | hx
          · exact List.mem_cons_of_mem _ (List.mem_cons_of_mem _ (List.mem_cons_of_mem _ (List.mem_cons_of_mem _ (List.mem_cons_of_mem _ (List.mem_cons_self ..)))))
          rcases List.mem_cons.1 hx with rfl | hx
          · exact List.mem_cons_of_mem _ (List.mem_cons_of_mem _ (List.mem_cons_of_mem _ (List.mem_cons_of_mem _ (List.mem_cons_of_mem _ (List.mem_cons_of_mem _ (List.mem_cons_self ..))))))
          rcases List.mem_cons.1 hx with rfl | hx
          · exact List.mem_cons_of_mem _ (List.mem_cons_of_mem _ (List.mem_cons_of_mem _ (List.mem_cons_of_mem _ (List.mem_cons_of_mem _ (List.mem_cons_of_mem _ (List.mem_cons_of_mem _ (List.mem_cons_self ..)))))))
          rcases List.mem_cons.1 hx with rfl | hx
          · exact List.mem_cons_of_mem _ (List.mem_cons_of_mem _ (List.mem_cons_of_mem _ (List.mem_cons_of_mem _ (List.mem_cons_of_mem _ (List.mem_cons_of_mem _ (List.mem_cons_of_mem _ (List.mem_cons_of_mem _ (List.mem_cons_self ..))))))))
          rcases List.mem_cons.1 hx with rfl | hx
          · exact List.mem_cons_of_mem _ (List.mem_cons_of_mem _ (List.mem_cons_of_mem _ (List.mem_cons_of_mem _ (List.mem_cons_of_mem _ (List.mem_cons_of_mem _ (List.mem_cons_of_mem _ (List.mem_cons_of_mem _ (List.mem_cons_of_mem _ (List.mem_cons_self ..)))))))))
          cases hx
        clear hk
        have hk := hk2
        clear hk2
        refine wp_region_lit ?_
        refine list_k rfl rfl hk (by decide) (by repeat' (first | exact far_nil _ | refine far_cons (by decide) ?_)) (v := .agg (uN (vOf (ss.getD (i2) []))).toArray) (do_ldA u128Arr rfl (hk.at (List.mem_cons_self ..)) B12 rfl) ?_
        clear hk; intro a hk
        refine wp_store_blk u128Arr hb21 rfl rfl (hk.at (List.mem_cons_of_mem _ (List.mem_cons_of_mem _ (List.mem_cons_of_mem _ (List.mem_cons_of_mem _ (List.mem_cons_self ..)))))) (cs := uN (vOf (ss.getD (i2) []))) (hk.at (List.mem_cons_self ..)) B8 hBq8 rfl rfl (uN_one _) ?_
        intro w22 B8n gg ss hb22
        clear ss
        replace B12 := B12.grown gg (by intro e; have := Option.some.inj e; omega)
        replace B10 := B10.grown gg (by intro e; have := Option.some.inj e; omega)
        replace B5 := B5.grown gg (by intro e; have := Option.some.inj e; omega)
        replace B7 := B7.grown gg (by intro e; have := Option.some.inj e; omega)
        replace BK := BK.grown gg (by intro e; have := Option.some.inj e; omega)
        replace HO := OwnB.keptG HO gg (.inr (fun e => own_ne HO B8 (by decide) e.symm))
        clear gg B8
        have B8 := B8n
        clear B8n
        refine keep_0 hk ?_
        clear hk; intro a hk
        refine hK8 _ _ ?_
        clear hK8
        have hk2 : Keeps 144 ([(12, .pointer (some ⟨q12, 0, none⟩)), (10, .pointer (some ⟨q10, 0, none⟩)), (9, .int .i64 ((i2 : Nat) : Int)), (8, .pointer (some ⟨q8, 0, none⟩)), (7, .pointer (some ⟨q7, 0, none⟩)), (6, .int .u32 ((tOf (ss.getD (i2) []) : Nat) : Int)), (5, .pointer (some ⟨q5, 0, none⟩)), (1, .slice (some ⟨gk, 0, none⟩) n cap), (0, sw)]) a := by
          refine ⟨hk.1, hk.2.1, fun x hx => hk.2.2 x ?_⟩
          rcases List.mem_cons.1 hx with rfl | hx
          · exact List.mem_cons_of_mem _ (List.mem_cons_self ..)
          rcases List.mem_cons.1 hx with rfl | hx
          · exact List.mem_cons_of_mem _ (List.mem_cons_of_mem _ (List.mem_cons_self ..))
          rcases List.mem_cons.1 hx with rfl | hx
          · exact List.mem_cons_of_mem _ (List.mem_cons_of_mem _ (List.mem_cons_of_mem _ (List.mem_cons_self ..)))
          rcases List.mem_cons.1 hx with rfl | hx
          · exact List.mem_cons_of_mem _ (List.mem_cons_of_mem _ (List.mem_cons_of_mem _ (List.mem_cons_of_mem _ (List.mem_cons_self ..))))
          rcases List.mem_cons.1 hx with rfl | hx
          · exact List.mem_cons_of_mem _ (List.mem_cons_of_mem _ (List.mem_cons_of_mem _ (List.mem_cons_of_mem _ (List.mem_cons_of_mem _ (List.mem_cons_self ..)))))
          rcases List.mem_cons.1 hx with rfl | hx
          · exact List.mem_cons_of_mem _ (List.mem_cons_of_mem _ (List.mem_cons_of_mem _ (List.mem_cons_of_mem _ (List.mem_cons_of_mem _ (List.mem_cons_of_mem _ (List.mem_cons_self ..))))))
          rcases List.mem_cons.1 hx with rfl | hx
          · exact List.mem_cons_of_mem _ (List.mem_cons_of_mem _ (List.mem_cons_of_mem _ (List.mem_cons_of_mem _ (List.mem_cons_of_mem _ (List.mem_cons_of_mem _ (List.mem_cons_of_mem _ (List.mem_cons_self ..)))))))
          rcases List.mem_cons.1 hx with rfl | hx
          · exact List.mem_cons_of_mem _ (List.mem_cons_of_mem _ (List.mem_cons_of_mem _ (List.mem_cons_of_mem _ (List.mem_cons_of_mem _ (List.mem_cons_of_mem _ (List.mem_cons_of_mem _ (List.mem_cons_of_mem _ (List.mem_cons_self ..))))))))
          rcases List.mem_cons.1 hx with rfl | hx
          · exact List.mem_cons_of_mem _ (List.mem_cons_of_mem _ (List.mem_cons_of_mem _ (List.mem_cons_of_mem _ (List.mem_cons_of_mem _ (List.mem_cons_of_mem _ (List.mem_cons_of_mem _ (List.mem_cons_of_mem _ (List.mem_cons_of_mem _ (List.mem_cons_self ..)))))))))
          cases hx
        clear hk
        have hk := hk2
        clear hk2
        refine wp_region_lit ?_
        refine list_k rfl rfl hk (by decide) (by repeat' (first | exact far_nil _ | refine far_cons (by decide) ?_)) (v := .int .i64 ((i2 : Nat) : Int)) (do_move rfl (hk.at (List.mem_cons_of_mem _ (List.mem_cons_of_mem _ (List.mem_cons_self ..))))) ?_
        clear hk; intro a hk
        refine list_k rfl rfl hk (by decide) (by repeat' (first | exact far_nil _ | refine far_cons (by decide) ?_)) (v := .int .i64 ((i2 + 1 : Nat) : Int)) ((do_addN (n := 1) rfl Try.underlying3 (hk.at (List.mem_cons_self ..)) rfl (by rw [IntKind.wrap_i64]; omega))) ?_
        clear hk; intro a hk
        have hk2 : Keeps 144 ([(54, .int .i64 ((i2 + 1 : Nat) : Int)), (53, .int .i64 ((i2 : Nat) : Int)), (12, .pointer (some ⟨q12, 0, none⟩)), (10, .pointer (some ⟨q10, 0, none⟩)), (8, .pointer (some ⟨q8, 0, none⟩)), (7, .pointer (some ⟨q7, 0, none⟩)), (6, .int .u32 ((tOf (ss.getD (i2) []) : Nat) : Int)), (5, .pointer (some ⟨q5, 0, none⟩)), (1, .slice (some ⟨gk, 0, none⟩) n cap), (0, sw)]) a := by
          refine ⟨hk.1, hk.2.1, fun x hx => hk.2.2 x ?_⟩
          rcases List.mem_cons.1 hx with rfl | hx
          · exact List.mem_cons_self ..
          rcases List.mem_cons.1 hx with rfl | hx
          · exact List.mem_cons_of_mem _ (List.mem_cons_self ..)
          rcases List.mem_cons.1 hx with rfl | hx
          · exact List.mem_cons_of_mem _ (List.mem_cons_of_mem _ (List.mem_cons_self ..))
          rcases List.mem_cons.1 hx with rfl | hx
          · exact List.mem_cons_of_mem _ (List.mem_cons_of_mem _ (List.mem_cons_of_mem _ (List.mem_cons_self ..)))
          rcases List.mem_cons.1 hx with rfl | hx
          · exact List.mem_cons_of_mem _ (List.mem_cons_of_mem _ (List.mem_cons_of_mem _ (List.mem_cons_of_mem _ (List.mem_cons_of_mem _ (List.mem_cons_self ..)))))
          rcases List.mem_cons.1 hx with rfl | hx
          · exact List.mem_cons_of_mem _ (List.mem_cons_of_mem _ (List.mem_cons_of_mem _ (List.mem_cons_of_mem _ (List.mem_cons_of_mem _ (List.mem_cons_of_mem _ (List.mem_cons_self ..))))))
          rcases List.mem_cons.1 hx with rfl | hx
          · exact List.mem_cons_of_mem _ (List.mem_cons_of_mem _ (List.mem_cons_of_mem _ (List.mem_cons_of_mem _ (List.mem_cons_of_mem _ (List.mem_cons_of_mem _ (List.mem_cons_of_mem _ (List.mem_cons_self ..)))))))
          rcases List.mem_cons.1 hx with rfl | hx
          · exact List.mem_cons_of_mem _ (List.mem_cons_of_mem _ (List.mem_cons_of_mem _ (List.mem_cons_of_mem _ (List.mem_cons_of_mem _ (List.mem_cons_of_mem _ (List.mem_cons_of_mem _ (List.mem_cons_of_mem _ (List.mem_cons_self ..))))))))
          rcases List.mem_cons.1 hx with rfl | hx
          · exact List.mem_cons_of_mem _ (List.mem_cons_of_mem _ (List.mem_cons_of_mem _ (List.mem_cons_of_mem _ (List.mem_cons_of_mem _ (List.mem_cons_of_mem _ (List.mem_cons_of_mem _ (List.mem_cons_of_mem _ (List.mem_cons_of_mem _ (List.mem_cons_self ..)))))))))
          rcases List.mem_cons.1 hx with rfl | hx
          · exact List.mem_cons_of_mem _ (List.mem_cons_of_mem _ (List.mem_cons_of_mem _ (List.mem_cons_of_mem _ (List.mem_cons_of_mem _ (List.mem_cons_of_mem _ (List.mem_cons_of_mem _ (List.mem_cons_of_mem _ (List.mem_cons_of_mem _ (List.mem_cons_of_mem _ (List.mem_cons_self ..))))))))))
          cases hx
        clear hk
        have hk := hk2
        clear hk2
        refine list_k rfl rfl hk (by decide) (by repeat' (first | exact far_nil _ | refine far_cons (by decide) ?_)) (v := .int .i64 ((i2 + 1 : Nat) : Int)) (do_assign rfl (hk.at (List.mem_cons_self ..))) ?_
        clear hk; intro a hk
        have hk2 : Keeps 144 [(9, .int .i64 ((i2 + 1 : Nat) : Int)), (8, .pointer (some ⟨q8, 0, none⟩)), (7, .pointer (some ⟨q7, 0, none⟩)), (6, .int .u32 ((tOf (ss.getD (i2) []) : Nat) : Int)), (5, .pointer (some ⟨q5, 0, none⟩)), (1, .slice (some ⟨gk, 0, none⟩) n cap), (0, sw)] a := hk.sub (fun x hx => by simp at hx ⊢; rcases hx with rfl | rfl | rfl | rfl | rfl | rfl | rfl <;> simp)
        refine ⟨⟨i2, sw, ys, by omega, hk2, B5, B7, B8, BK, HO, hyl, hb22, HE2⟩, ?_⟩
        rw [hmu, hk2.at (t := 9) (v := .int .i64 ((i2 + 1 : Nat) : Int)) (by simp)]
        simp [intOf]
        omega
      clear hK8 hK4
      refine wp_seq_k fun K5 hK5 => ?_
      refine wp_region_lit ?_
      refine list_k rfl rfl hk (by decide) (by repeat' (first | exact far_nil _ | refine far_cons (by decide) ?_)) (v := .int .u32 ((tOf y : Nat) : Int)) (do_move rfl (hk.at (List.mem_cons_of_mem _ (List.mem_cons_self ..)))) ?_
      clear hk; intro a hk
      refine list_k rfl rfl hk (by decide) (by repeat' (first | exact far_nil _ | refine far_cons (by decide) ?_)) (v := .int .u32 ((tOf x : Nat) : Int)) (do_move rfl (hk.at (List.mem_cons_of_mem _ (List.mem_cons_of_mem _ (List.mem_cons_of_mem _ (List.mem_cons_of_mem _ (List.mem_cons_of_mem _ (List.mem_cons_of_mem _ (List.mem_cons_of_mem _ (List.mem_cons_self ..)))))))))) ?_
      clear hk; intro a hk
      refine list_k rfl rfl hk (by decide) (by repeat' (first | exact far_nil _ | refine far_cons (by decide) ?_)) (v := .bool (decide (¬ tOf y = tOf x))) (do_neq rfl Try.underlying53 (hk.at (List.mem_cons_of_mem _ (List.mem_cons_self ..))) (hk.at (List.mem_cons_self ..))) ?_
      clear hk; intro a hk
      by_cases htt : tOf y = tOf x
      case neg =>
        refine hK5 _ _ (wp_cond_true ((hk.at (List.mem_cons_self ..)).trans (congrArg Value.bool (decide_eq_true htt))) ?_)
        clear hK5
        have hk2 : Keeps 144 ([(12, .pointer (some ⟨q12, 0, none⟩)), (11, .int .u32 ((tOf y : Nat) : Int)), (10, .pointer (some ⟨q10, 0, none⟩)), (9, .int .i64 ((j + 1 : Nat) : Int)), (8, .pointer (some ⟨q8, 0, none⟩)), (7, .pointer (some ⟨q7, 0, none⟩)), (6, .int .u32 ((tOf x : Nat) : Int)), (5, .pointer (some ⟨q5, 0, none⟩)), (1, .slice (some ⟨gk, 0, none⟩) n cap), (0, sv)]) a := by
          refine ⟨hk.1, hk.2.1, fun x hx => hk.2.2 x ?_⟩
          rcases List.mem_cons.1 hx with rfl | hx
          · exact List.mem_cons_of_mem _ (List.mem_cons_of_mem _ (List.mem_cons_of_mem _ (List.mem_cons_self ..)))
          rcases List.mem_cons.1 hx with rfl | hx
          · exact List.mem_cons_of_mem _ (List.mem_cons_of_mem _ (List.mem_cons_of_mem _ (List.mem_cons_of_mem _ (List.mem_cons_self ..))))
          rcases List.mem_cons.1 hx with rfl | hx
          · exact List.mem_cons_of_mem _ (List.mem_cons_of_mem _ (List.mem_cons_of_mem _ (List.mem_cons_of_mem _ (List.mem_cons_of_mem _ (List.mem_cons_self ..)))))
          rcases List.mem_cons.1 hx with rfl | hx
          · exact List.mem_cons_of_mem _ (List.mem_cons_of_mem _ (List.mem_cons_of_mem _ (List.mem_cons_of_mem _ (List.mem_cons_of_mem _ (List.mem_cons_of_mem _ (List.mem_cons_self ..))))))
          rcases List.mem_cons.1 hx with rfl | hx
          · exact List.mem_cons_of_mem _ (List.mem_cons_of_mem _ (List.mem_cons_of_mem _ (List.mem_cons_of_mem _ (List.mem_cons_of_mem _ (List.mem_cons_of_mem _ (List.mem_cons_of_mem _ (List.mem_cons_self ..)))))))
          rcases List.mem_cons.1 hx with rfl | hx
          · exact List.mem_cons_of_mem _ (List.mem_cons_of_mem _ (List.mem_cons_of_mem _ (List.mem_cons_of_mem _ (List.mem_cons_of_mem _ (List.mem_cons_of_mem _ (List.mem_cons_of_mem _ (List.mem_cons_of_mem _ (List.mem_cons_self ..))))))))
          rcases List.mem_cons.1 hx with rfl | hx
          · exact List.mem_cons_of_mem _ (List.mem_cons_of_mem _ (List.mem_cons_of_mem _ (List.mem_cons_of_mem _ (List.mem_cons_of_mem _ (List.mem_cons_of_mem _ (List.mem_cons_of_mem _ (List.mem_cons_of_mem _ (List.mem_cons_of_mem _ (List.mem_cons_self ..)))))))))
          rcases List.mem_cons.1 hx with rfl | hx
          · exact List.mem_cons_of_mem _ (List.mem_cons_of_mem _ (List.mem_cons_of_mem _ (List.mem_cons_of_mem _ (List.mem_cons_of_mem _ (List.mem_cons_of_mem _ (List.mem_cons_of_mem _ (List.mem_cons_of_mem _ (List.mem_cons_of_mem _ (List.mem_cons_of_mem _ (List.mem_cons_self ..))))))))))
          rcases List.mem_cons.1 hx with rfl | hx
          · exact List.mem_cons_of_mem _ (List.mem_cons_of_mem _ (List.mem_cons_of_mem _ (List.mem_cons_of_mem _ (List.mem_cons_of_mem _ (List.mem_cons_of_mem _ (List.mem_cons_of_mem _ (List.mem_cons_of_mem _ (List.mem_cons_of_mem _ (List.mem_cons_of_mem _ (List.mem_cons_of_mem _ (List.mem_cons_self ..)))))))))))
          rcases List.mem_cons.1 hx with rfl | hx
          · exact List.mem_cons_of_mem _ (List.mem_cons_of_mem _ (List.mem_cons_of_mem _ (List.mem_cons_of_mem _ (List.mem_cons_of_mem _ (List.mem_cons_of_mem _ (List.mem_cons_of_mem _ (List.mem_cons_of_mem _ (List.mem_cons_of_mem _ (List.mem_cons_of_mem _ (List.mem_cons_of_mem _ (List.mem_cons_of_mem _ (List.mem_cons_self ..))))))))))))
          cases hx
        clear hk
        have hk := hk2
        clear hk2
        have hlt3 : tOf x ≤ tOf y := hst.1
        refine wp_seq_k fun K5 hK5 => ?_
        refine wp_region_lit ?_
        refine list_k rfl rfl hk (by decide) (by repeat' (first | exact far_nil _ | refine far_cons (by decide) ?_)) (v := .int .u32 ((tOf y : Nat) : Int)) (do_move rfl (hk.at (List.mem_cons_of_mem _ (List.mem_cons_self ..)))) ?_
        clear hk; intro a hk
        refine list_k rfl rfl hk (by decide) (by repeat' (first | exact far_nil _ | refine far_cons (by decide) ?_)) (v := .int .u32 ((tOf x : Nat) : Int)) (do_move rfl (hk.at (List.mem_cons_of_mem _ (List.mem_cons_of_mem _ (List.mem_cons_of_mem _ (List.mem_cons_of_mem _ (List.mem_cons_of_mem _ (List.mem_cons_of_mem _ (List.mem_cons_of_mem _ (List.mem_cons_self ..)))))))))) ?_
        clear hk; intro a hk
        refine list_k rfl rfl hk (by decide) (by repeat' (first | exact far_nil _ | refine far_cons (by decide) ?_)) (v := .int .u32 ((tOf y - tOf x : Nat) : Int)) ((do_subN rfl Try.underlying53 (hk.at (List.mem_cons_of_mem _ (List.mem_cons_self ..))) (hk.at (List.mem_cons_self ..)) (by rw [IntKind.wrap_u32]; omega))) ?_
        clear hk; intro a hk
        refine list_k rfl rfl hk (by decide) (by repeat' (first | exact far_nil _ | refine far_cons (by decide) ?_)) (v := .int .u32 ((tOf y - tOf x : Nat) : Int)) (do_assign rfl (hk.at (List.mem_cons_self ..))) ?_
        clear hk; intro a hk
        refine hK5 _ _ ?_
        clear hK5
        have hk2 : Keeps 144 ([(13, .int .u32 ((tOf y - tOf x : Nat) : Int)), (12, .pointer (some ⟨q12, 0, none⟩)), (11, .int .u32 ((tOf y : Nat) : Int)), (10, .pointer (some ⟨q10, 0, none⟩)), (9, .int .i64 ((j + 1 : Nat) : Int)), (8, .pointer (some ⟨q8, 0, none⟩)), (7, .pointer (some ⟨q7, 0, none⟩)), (6, .int .u32 ((tOf x : Nat) : Int)), (5, .pointer (some ⟨q5, 0, none⟩)), (1, .slice (some ⟨gk, 0, none⟩) n cap), (0, sv)]) a := by
          refine ⟨hk.1, hk.2.1, fun x hx => hk.2.2 x ?_⟩
          rcases List.mem_cons.1 hx with rfl | hx
          · exact List.mem_cons_self ..
          rcases List.mem_cons.1 hx with rfl | hx
          · exact List.mem_cons_of_mem _ (List.mem_cons_of_mem _ (List.mem_cons_of_mem _ (List.mem_cons_of_mem _ (List.mem_cons_self ..))))
          rcases List.mem_cons.1 hx with rfl | hx
          · exact List.mem_cons_of_mem _ (List.mem_cons_of_mem _ (List.mem_cons_of_mem _ (List.mem_cons_of_mem _ (List.mem_cons_of_mem _ (List.mem_cons_self ..)))))
          rcases List.mem_cons.1 hx with rfl | hx
          · exact List.mem_cons_of_mem _ (List.mem_cons_of_mem _ (List.mem_cons_of_mem _ (List.mem_cons_of_mem _ (List.mem_cons_of_mem _ (List.mem_cons_of_mem _ (List.mem_cons_self ..))))))
          rcases List.mem_cons.1 hx with rfl | hx
          · exact List.mem_cons_of_mem _ (List.mem_cons_of_mem _ (List.mem_cons_of_mem _ (List.mem_cons_of_mem _ (List.mem_cons_of_mem _ (List.mem_cons_of_mem _ (List.mem_cons_of_mem _ (List.mem_cons_self ..)))))))
          rcases List.mem_cons.1 hx with rfl | hx
          · exact List.mem_cons_of_mem _ (List.mem_cons_of_mem _ (List.mem_cons_of_mem _ (List.mem_cons_of_mem _ (List.mem_cons_of_mem _ (List.mem_cons_of_mem _ (List.mem_cons_of_mem _ (List.mem_cons_of_mem _ (List.mem_cons_self ..))))))))
          rcases List.mem_cons.1 hx with rfl | hx
          · exact List.mem_cons_of_mem _ (List.mem_cons_of_mem _ (List.mem_cons_of_mem _ (List.mem_cons_of_mem _ (List.mem_cons_of_mem _ (List.mem_cons_of_mem _ (List.mem_cons_of_mem _ (List.mem_cons_of_mem _ (List.mem_cons_of_mem _ (List.mem_cons_self ..)))))))))
          rcases List.mem_cons.1 hx with rfl | hx
          · exact List.mem_cons_of_mem _ (List.mem_cons_of_mem _ (List.mem_cons_of_mem _ (List.mem_cons_of_mem _ (List.mem_cons_of_mem _ (List.mem_cons_of_mem _ (List.mem_cons_of_mem _ (List.mem_cons_of_mem _ (List.mem_cons_of_mem _ (List.mem_cons_of_mem _ (List.mem_cons_self ..))))))))))
          rcases List.mem_cons.1 hx with rfl | hx
          · exact List.mem_cons_of_mem _ (List.mem_cons_of_mem _ (List.mem_cons_of_mem _ (List.mem_cons_of_mem _ (List.mem_cons_of_mem _ (List.mem_cons_of_mem _ (List.mem_cons_of_mem _ (List.mem_cons_of_mem _ (List.mem_cons_of_mem _ (List.mem_cons_of_mem _ (List.mem_cons_of_mem _ (List.mem_cons_self ..)))))))))))
          rcases List.mem_cons.1 hx with rfl | hx
          · exact List.mem_cons_of_mem _ (List.mem_cons_of_mem _ (List.mem_cons_of_mem _ (List.mem_cons_of_mem _ (List.mem_cons_of_mem _ (List.mem_cons_of_mem _ (List.mem_cons_of_mem _ (List.mem_cons_of_mem _ (List.mem_cons_of_mem _ (List.mem_cons_of_mem _ (List.mem_cons_of_mem _ (List.mem_cons_of_mem _ (List.mem_cons_self ..))))))))))))
          rcases List.mem_cons.1 hx with rfl | hx
          · exact List.mem_cons_of_mem _ (List.mem_cons_of_mem _ (List.mem_cons_of_mem _ (List.mem_cons_of_mem _ (List.mem_cons_of_mem _ (List.mem_cons_of_mem _ (List.mem_cons_of_mem _ (List.mem_cons_of_mem _ (List.mem_cons_of_mem _ (List.mem_cons_of_mem _ (List.mem_cons_of_mem _ (List.mem_cons_of_mem _ (List.mem_cons_of_mem _ (List.mem_cons_self ..)))))))))))))
          cases hx
        clear hk
        have hk := hk2
        clear hk2
        have hdd : tOf y = tOf x + (tOf y - tOf x) := by omega
        have hdl : tOf y - tOf x < 4294967296 := by omega
        obtain ⟨d, hde⟩ : ∃ d, d = tOf y - tOf x := ⟨_, rfl⟩
        rw [← hde] at hk hdd hdl
        clear hde
        refine wp_seq_k fun K5 hK5 => ?_
        refine wp_region_lit ?_
        refine list_k rfl rfl hk (by decide) (by repeat' (first | exact far_nil _ | refine far_cons (by decide) ?_)) (v := .int .u32 ((d : Nat) : Int)) (do_move rfl (hk.at (List.mem_cons_self ..))) ?_
        clear hk; intro a hk
        refine wp_call rfl (do_call1 rfl (hk.at (List.mem_cons_self ..)) (ent1_l32 _)) (vlen32_ok d _ hdl) ?_
        rintro e w12 ⟨m, rfl, hm1, hm2, hm3, hww⟩
        subst hww
        refine ⟨_, rfl, ?_⟩
        refine keep_k (v := .int .i64 ((m : Nat) : Int)) hk (by decide) (by repeat' (first | exact far_nil _ | refine far_cons (by decide) ?_)) ?_
        clear hk; intro a hk
        refine list_k rfl rfl hk (by decide) (by repeat' (first | exact far_nil _ | refine far_cons (by decide) ?_)) (v := .int .i64 ((m : Nat) : Int)) (do_assign rfl (hk.at (List.mem_cons_self ..))) ?_
        clear hk; intro a hk
        refine hK5 _ _ ?_
        clear hK5
        have hk2 : Keeps 144 ([(14, .int .i64 ((m : Nat) : Int)), (13, .int .u32 ((d : Nat) : Int)), (12, .pointer (some ⟨q12, 0, none⟩)), (11, .int .u32 ((tOf y : Nat) : Int)), (10, .pointer (some ⟨q10, 0, none⟩)), (9, .int .i64 ((j + 1 : Nat) : Int)), (8, .pointer (some ⟨q8, 0, none⟩)), (7, .pointer (some ⟨q7, 0, none⟩)), (6, .int .u32 ((tOf x : Nat) : Int)), (5, .pointer (some ⟨q5, 0, none⟩)), (1, .slice (some ⟨gk, 0, none⟩) n cap), (0, sv)]) a := by
          refine ⟨hk.1, hk.2.1, fun x hx => hk.2.2 x ?_⟩
          rcases List.mem_cons.1 hx with rfl | hx
          · exact List.mem_cons_self ..
          rcases List.mem_cons.1 hx with rfl | hx
          · exact List.mem_cons_of_mem _ (List.mem_cons_of_mem _ (List.mem_cons_of_mem _ (List.mem_cons_self ..)))
          rcases List.mem_cons.1 hx with rfl | hx
          · exact List.mem_cons_of_mem _ (List.mem_cons_of_mem _ (List.mem_cons_of_mem _ (List.mem_cons_of_mem _ (List.mem_cons_self ..))))
          rcases List.mem_cons.1 hx with rfl | hx
          · exact List.mem_cons_of_mem _ (List.mem_cons_of_mem _ (List.mem_cons_of_mem _ (List.mem_cons_of_mem _ (List.mem_cons_of_mem _ (List.mem_cons_self ..)))))
          rcases List.mem_cons.1 hx with rfl | hx
          · exact List.mem_cons_of_mem _ (List.mem_cons_of_mem _ (List.mem_cons_of_mem _ (List.mem_cons_of_mem _ (List.mem_cons_of_mem _ (List.mem_cons_of_mem _ (List.mem_cons_self ..))))))
          rcases List.mem_cons.1 hx with rfl | hx
          · exact List.mem_cons_of_mem _ (List.mem_cons_of_mem _ (List.mem_cons_of_mem _ (List.mem_cons_of_mem _ (List.mem_cons_of_mem _ (List.mem_cons_of_mem _ (List.mem_cons_of_mem _ (List.mem_cons_self ..)))))))
          rcases List.mem_cons.1 hx with rfl | hx
          · exact List.mem_cons_of_mem _ (List.mem_cons_of_mem _ (List.mem_cons_of_mem _ (List.mem_cons_of_mem _ (List.mem_cons_of_mem _ (List.mem_cons_of_mem _ (List.mem_cons_of_mem _ (List.mem_cons_of_mem _ (List.mem_cons_self ..))))))))
          rcases List.mem_cons.1 hx with rfl | hx
          · exact List.mem_cons_of_mem _ (List.mem_cons_of_mem _ (List.mem_cons_of_mem _ (List.mem_cons_of_mem _ (List.mem_cons_of_mem _ (List.mem_cons_of_mem _ (List.mem_cons_of_mem _ (List.mem_cons_of_mem _ (List.mem_cons_of_mem _ (List.mem_cons_self ..)))))))))
          rcases List.mem_cons.1 hx with rfl | hx
          · exact List.mem_cons_of_mem _ (List.mem_cons_of_mem _ (List.mem_cons_of_mem _ (List.mem_cons_of_mem _ (List.mem_cons_of_mem _ (List.mem_cons_of_mem _ (List.mem_cons_of_mem _ (List.mem_cons_of_mem _ (List.mem_cons_of_mem _ (List.mem_cons_of_mem _ (List.mem_cons_self ..))))))))))
          rcases List.mem_cons.1 hx with rfl | hx
          · exact List.mem_cons_of_mem _ (List.mem_cons_of_mem _ (List.mem_cons_of_mem _ (List.mem_cons_of_mem _ (List.mem_cons_of_mem _ (List.mem_cons_of_mem _ (List.mem_cons_of_mem _ (List.mem_cons_of_mem _ (List.mem_cons_of_mem _ (List.mem_cons_of_mem _ (List.mem_cons_of_mem _ (List.mem_cons_self ..)))))))))))
          rcases List.mem_cons.1 hx with rfl | hx
          · exact List.mem_cons_of_mem _ (List.mem_cons_of_mem _ (List.mem_cons_of_mem _ (List.mem_cons_of_mem _ (List.mem_cons_of_mem _ (List.mem_cons_of_mem _ (List.mem_cons_of_mem _ (List.mem_cons_of_mem _ (List.mem_cons_of_mem _ (List.mem_cons_of_mem _ (List.mem_cons_of_mem _ (List.mem_cons_of_mem _ (List.mem_cons_self ..))))))))))))
          rcases List.mem_cons.1 hx with rfl | hx
          · exact List.mem_cons_of_mem _ (List.mem_cons_of_mem _ (List.mem_cons_of_mem _ (List.mem_cons_of_mem _ (List.mem_cons_of_mem _ (List.mem_cons_of_mem _ (List.mem_cons_of_mem _ (List.mem_cons_of_mem _ (List.mem_cons_of_mem _ (List.mem_cons_of_mem _ (List.mem_cons_of_mem _ (List.mem_cons_of_mem _ (List.mem_cons_of_mem _ (List.mem_cons_self ..)))))))))))))
          cases hx
        clear hk
        have hk := hk2
        clear hk2
        refine wp_seq_k fun K5 hK5 => ?_
        refine wp_region_lit ?_
        refine list_k rfl rfl hk (by decide) (by repeat' (first | exact far_nil _ | refine far_cons (by decide) ?_)) (v := sv) (do_move rfl (hk.at (List.mem_cons_of_mem _ (List.mem_cons_of_mem _ (List.mem_cons_of_mem _ (List.mem_cons_of_mem _ (List.mem_cons_of_mem _ (List.mem_cons_of_mem _ (List.mem_cons_of_mem _ (List.mem_cons_of_mem _ (List.mem_cons_of_mem _ (List.mem_cons_of_mem _ (List.mem_cons_of_mem _ (List.mem_cons_self ..)))))))))))))) ?_
        clear hk; intro a hk
        refine list_k rfl rfl hk (by decide) (by repeat' (first | exact far_nil _ | refine far_cons (by decide) ?_)) (v := .int .i64 ((m : Nat) : Int)) (do_move rfl (hk.at (List.mem_cons_of_mem _ (List.mem_cons_self ..)))) ?_
        clear hk; intro a hk
        refine list_k rfl rfl hk (by decide) (by repeat' (first | exact far_nil _ | refine far_cons (by decide) ?_)) (v := .int .u8 ((m : Nat) : Int)) (do_cvtN rfl Try.underlying3 Try.underlying5 (hk.at (List.mem_cons_self ..)) (by rw [IntKind.wrap_u8]; omega)) ?_
        clear hk; intro a hk
        refine list_k rfl rfl hk (by decide) (by repeat' (first | exact far_nil _ | refine far_cons (by decide) ?_)) (v := .int .u8 ((64 + m : Nat) : Int)) (do_orB rfl Try.underlying5 (hk.at (List.mem_cons_self ..)) (or64n m (by omega))) ?_
        clear hk; intro a hk
        obtain ⟨qb, hqb⟩ : ∃ q, q = w12.heap.size := ⟨_, rfl⟩
        refine wp_byte1 rfl rfl Try.underlying22 BI.1 BI.2.1 BI.2.2 (m := 64 + m) (hk.at (List.mem_cons_self ..)) (by omega) hqb.symm ?_
        intro w13 BL gg ss
        replace BK := BK.grown gg (by simp)
        replace HO := OwnB.kept HO (below_grown gg)
        replace B5 := B5.grown gg (by simp)
        replace B7 := B7.grown gg (by simp)
        replace B8 := B8.grown gg (by simp)
        replace B10 := B10.grown gg (by simp)
        replace B12 := B12.grown gg (by simp)
        have hb13 := hb11.trans ((below_grown gg).mono (Nat.le_trans hbase hb11.size))
        clear gg ss hqb hb11
        refine keep_k (v := .slice (some ⟨qb, 0, none⟩) 1 1) hk (by decide) (by repeat' (first | exact far_nil _ | refine far_cons (by decide) ?_)) ?_
        clear hk; intro a hk
        refine wp_append_rd rfl rfl Try.underlying22 info5 rfl (hk.at (List.mem_cons_self ..)) (hk.at (List.mem_cons_of_mem _ (List.mem_cons_of_mem _ (List.mem_cons_of_mem _ (List.mem_cons_of_mem _ (List.mem_cons_self ..)))))) HO (BL.rd (by simp)) rfl (by simp; omega) (Nat.le_trans hbase hb13.size) ?_
        intro sv3 w14 HOn gg
        replace BK := BK.grown gg (own_ne HO BK (by decide))
        replace B5 := B5.grown gg (own_ne HO B5 (by decide))
        replace B7 := B7.grown gg (own_ne HO B7 (by decide))
        replace B8 := B8.grown gg (own_ne HO B8 (by decide))
        replace B10 := B10.grown gg (own_ne HO B10 (by decide))
        replace B12 := B12.grown gg (own_ne HO B12 (by decide))
        have hb14 := hb13.grown gg (Nat.le_trans hbase hb13.size) (fun j hj => (HO.lt j hj).1)
        clear gg HO hb13 BL
        have HO := HOn
        clear HOn
        refine keep_k (v := sv3) hk (by decide) (by repeat' (first | exact far_nil _ | refine far_cons (by decide) ?_)) ?_
        clear hk; intro a hk
        have hk2 : Keeps 144 ([(79, sv3), (78, .slice (some ⟨qb, 0, none⟩) 1 1), (77, .int .u8 ((64 + m : Nat) : Int)), (76, .int .u8 ((m : Nat) : Int)), (75, .int .i64 ((m : Nat) : Int)), (74, sv), (14, .int .i64 ((m : Nat) : Int)), (13, .int .u32 ((d : Nat) : Int)), (12, .pointer (some ⟨q12, 0, none⟩)), (11, .int .u32 ((tOf y : Nat) : Int)), (10, .pointer (some ⟨q10, 0, none⟩)), (9, .int .i64 ((j + 1 : Nat) : Int)), (8, .pointer (some ⟨q8, 0, none⟩)), (7, .pointer (some ⟨q7, 0, none⟩)), (6, .int .u32 ((tOf x : Nat) : Int)), (5, .pointer (some ⟨q5, 0, none⟩)), (1, .slice (some ⟨gk, 0, none⟩) n cap)]) a := by
          refine ⟨hk.1, hk.2.1, fun x hx => hk.2.2 x ?_⟩
          rcases List.mem_cons.1 hx with rfl | hx
          · exact List.mem_cons_self ..
          rcases List.mem_cons.1 hx with rfl | hx
          · exact List.mem_cons_of_mem _ (List.mem_cons_self ..)
          rcases List.mem_cons.1 hx with rfl | hx
          · exact List.mem_cons_of_mem _ (List.mem_cons_of_mem _ (List.mem_cons_self ..))
          rcases List.mem_cons.1 hx with rfl | hx
          · exact List.mem_cons_of_mem _ (List.mem_cons_of_mem _ (List.mem_cons_of_mem _ (List.mem_cons_self ..)))
          rcases List.mem_cons.1 hx with rfl | hx
          · exact List.mem_cons_of_mem _ (List.mem_cons_of_mem _ (List.mem_cons_of_mem _ (List.mem_cons_of_mem _ (List.mem_cons_self ..))))
          rcases List.mem_cons.1 hx with rfl | hx
          · exact List.mem_cons_of_mem _ (List.mem_cons_of_mem _ (List.mem_cons_of_mem _ (List.mem_cons_of_mem _ (List.mem_cons_of_mem _ (List.mem_cons_self ..)))))
          rcases List.mem_cons.1 hx with rfl | hx
          · exact List.mem_cons_of_mem _ (List.mem_cons_of_mem _ (List.mem_cons_of_mem _ (List.mem_cons_of_mem _ (List.mem_cons_of_mem _ (List.mem_cons_of_mem _ (List.mem_cons_self ..))))))
          rcases List.mem_cons.1 hx with rfl | hx
          · exact List.mem_cons_of_mem _ (List.mem_cons_of_mem _ (List.mem_cons_of_mem _ (List.mem_cons_of_mem _ (List.mem_cons_of_mem _ (List.mem_cons_of_mem _ (List.mem_cons_of_mem _ (List.mem_cons_self ..)))))))
          rcases List.mem_cons.1 hx with rfl | hx
          · exact List.mem_cons_of_mem _ (List.mem_cons_of_mem _ (List.mem_cons_of_mem _ (List.mem_cons_of_mem _ (List.mem_cons_of_mem _ (List.mem_cons_of_mem _ (List.mem_cons_of_mem _ (List.mem_cons_of_mem _ (List.mem_cons_self ..))))))))
          rcases List.mem_cons.1 hx with rfl | hx
          · exact List.mem_cons_of_mem _ (List.mem_cons_of_mem _ (List.mem_cons_of_mem _ (List.mem_cons_of_mem _ (List.mem_cons_of_mem _ (List.mem_cons_of_mem _ (List.mem_cons_of_mem _ (List.mem_cons_of_mem _ (List.mem_cons_of_mem _ (List.mem_cons_self ..)))))))))
          rcases List.mem_cons.1 hx with rfl | hx
          · exact List.mem_cons_of_mem _ (List.mem_cons_of_mem _ (List.mem_cons_of_mem _ (List.mem_cons_of_mem _ (List.mem_cons_of_mem _ (List.mem_cons_of_mem _ (List.mem_cons_of_mem _ (List.mem_cons_of_mem _ (List.mem_cons_of_mem _ (List.mem_cons_of_mem _ (List.mem_cons_self ..))))))))))
          rcases List.mem_cons.1 hx with rfl | hx
          · exact List.mem_cons_of_mem _ (List.mem_cons_of_mem _ (List.mem_cons_of_mem _ (List.mem_cons_of_mem _ (List.mem_cons_of_mem _ (List.mem_cons_of_mem _ (List.mem_cons_of_mem _ (List.mem_cons_of_mem _ (List.mem_cons_of_mem _ (List.mem_cons_of_mem _ (List.mem_cons_of_mem _ (List.mem_cons_self ..)))))))))))
          rcases List.mem_cons.1 hx with rfl | hx
          · exact List.mem_cons_of_mem _ (List.mem_cons_of_mem _ (List.mem_cons_of_mem _ (List.mem_cons_of_mem _ (List.mem_cons_of_mem _ (List.mem_cons_of_mem _ (List.mem_cons_of_mem _ (List.mem_cons_of_mem _ (List.mem_cons_of_mem _ (List.mem_cons_of_mem _ (List.mem_cons_of_mem _ (List.mem_cons_of_mem _ (List.mem_cons_self ..))))))))))))
          rcases List.mem_cons.1 hx with rfl | hx
          · exact List.mem_cons_of_mem _ (List.mem_cons_of_mem _ (List.mem_cons_of_mem _ (List.mem_cons_of_mem _ (List.mem_cons_of_mem _ (List.mem_cons_of_mem _ (List.mem_cons_of_mem _ (List.mem_cons_of_mem _ (List.mem_cons_of_mem _ (List.mem_cons_of_mem _ (List.mem_cons_of_mem _ (List.mem_cons_of_mem _ (List.mem_cons_of_mem _ (List.mem_cons_self ..)))))))))))))
          rcases List.mem_cons.1 hx with rfl | hx
          · exact List.mem_cons_of_mem _ (List.mem_cons_of_mem _ (List.mem_cons_of_mem _ (List.mem_cons_of_mem _ (List.mem_cons_of_mem _ (List.mem_cons_of_mem _ (List.mem_cons_of_mem _ (List.mem_cons_of_mem _ (List.mem_cons_of_mem _ (List.mem_cons_of_mem _ (List.mem_cons_of_mem _ (List.mem_cons_of_mem _ (List.mem_cons_of_mem _ (List.mem_cons_of_mem _ (List.mem_cons_self ..))))))))))))))
          rcases List.mem_cons.1 hx with rfl | hx
          · exact List.mem_cons_of_mem _ (List.mem_cons_of_mem _ (List.mem_cons_of_mem _ (List.mem_cons_of_mem _ (List.mem_cons_of_mem _ (List.mem_cons_of_mem _ (List.mem_cons_of_mem _ (List.mem_cons_of_mem _ (List.mem_cons_of_mem _ (List.mem_cons_of_mem _ (List.mem_cons_of_mem _ (List.mem_cons_of_mem _ (List.mem_cons_of_mem _ (List.mem_cons_of_mem _ (List.mem_cons_of_mem _ (List.mem_cons_self ..)))))))))))))))
          rcases List.mem_cons.1 hx with rfl | hx
          · exact List.mem_cons_of_mem _ (List.mem_cons_of_mem _ (List.mem_cons_of_mem _ (List.mem_cons_of_mem _ (List.mem_cons_of_mem _ (List.mem_cons_of_mem _ (List.mem_cons_of_mem _ (List.mem_cons_of_mem _ (List.mem_cons_of_mem _ (List.mem_cons_of_mem _ (List.mem_cons_of_mem _ (List.mem_cons_of_mem _ (List.mem_cons_of_mem _ (List.mem_cons_of_mem _ (List.mem_cons_of_mem _ (List.mem_cons_of_mem _ (List.mem_cons_self ..))))))))))))))))
          cases hx
        clear hk
        have hk := hk2
        clear hk2
        refine list_k rfl rfl hk (by decide) (by repeat' (first | exact far_nil _ | refine far_cons (by decide) ?_)) (v := sv3) (do_assign rfl (hk.at (List.mem_cons_self ..))) ?_
        clear hk; intro a hk
        refine hK5 _ _ ?_
        clear hK5
        have hk2 : Keeps 144 ([(0, sv3), (14, .int .i64 ((m : Nat) : Int)), (13, .int .u32 ((d : Nat) : Int)), (12, .pointer (some ⟨q12, 0, none⟩)), (11, .int .u32 ((tOf y : Nat) : Int)), (10, .pointer (some ⟨q10, 0, none⟩)), (9, .int .i64 ((j + 1 : Nat) : Int)), (8, .pointer (some ⟨q8, 0, none⟩)), (7, .pointer (some ⟨q7, 0, none⟩)), (6, .int .u32 ((tOf x : Nat) : Int)), (5, .pointer (some ⟨q5, 0, none⟩)), (1, .slice (some ⟨gk, 0, none⟩) n cap)]) a := by
          refine ⟨hk.1, hk.2.1, fun x hx => hk.2.2 x ?_⟩
          rcases List.mem_cons.1 hx with rfl | hx
          · exact List.mem_cons_self ..
          rcases List.mem_cons.1 hx with rfl | hx
          · exact List.mem_cons_of_mem _ (List.mem_cons_of_mem _ (List.mem_cons_of_mem _ (List.mem_cons_of_mem _ (List.mem_cons_of_mem _ (List.mem_cons_of_mem _ (List.mem_cons_of_mem _ (List.mem_cons_self ..)))))))
          rcases List.mem_cons.1 hx with rfl | hx
          · exact List.mem_cons_of_mem _ (List.mem_cons_of_mem _ (List.mem_cons_of_mem _ (List.mem_cons_of_mem _ (List.mem_cons_of_mem _ (List.mem_cons_of_mem _ (List.mem_cons_of_mem _ (List.mem_cons_of_mem _ (List.mem_cons_self ..))))))))
          rcases List.mem_cons.1 hx with rfl | hx
          · exact List.mem_cons_of_mem _ (List.mem_cons_of_mem _ (List.mem_cons_of_mem _ (List.mem_cons_of_mem _ (List.mem_cons_of_mem _ (List.mem_cons_of_mem _ (List.mem_cons_of_mem _ (List.mem_cons_of_mem _ (List.mem_cons_of_mem _ (List.mem_cons_self ..)))))))))
          rcases List.mem_cons.1 hx with rfl | hx
          · exact List.mem_cons_of_mem _ (List.mem_cons_of_mem _ (List.mem_cons_of_mem _ (List.mem_cons_of_mem _ (List.mem_cons_of_mem _ (List.mem_cons_of_mem _ (List.mem_cons_of_mem _ (List.mem_cons_of_mem _ (List.mem_cons_of_mem _ (List.mem_cons_of_mem _ (List.mem_cons_self ..))))))))))
          rcases List.mem_cons.1 hx with rfl | hx
          · exact List.mem_cons_of_mem _ (List.mem_cons_of_mem _ (List.mem_cons_of_mem _ (List.mem_cons_of_mem _ (List.mem_cons_of_mem _ (List.mem_cons_of_mem _ (List.mem_cons_of_mem _ (List.mem_cons_of_mem _ (List.mem_cons_of_mem _ (List.mem_cons_of_mem _ (List.mem_cons_of_mem _ (List.mem_cons_self ..)))))))))))
          rcases List.mem_cons.1 hx with rfl | hx
          · exact List.mem_cons_of_mem _ (List.mem_cons_of_mem _ (List.mem_cons_of_mem _ (List.mem_cons_of_mem _ (List.mem_cons_of_mem _ (List.mem_cons_of_mem _ (List.mem_cons_of_mem _ (List.mem_cons_of_mem _ (List.mem_cons_of_mem _ (List.mem_cons_of_mem _ (List.mem_cons_of_mem _ (List.mem_cons_of_mem _ (List.mem_cons_self ..))))))))))))
          rcases List.mem_cons.1 hx with rfl | hx
          · exact List.mem_cons_of_mem _ (List.mem_cons_of_mem _ (List.mem_cons_of_mem _ (List.mem_cons_of_mem _ (List.mem_cons_of_mem _ (List.mem_cons_of_mem _ (List.mem_cons_of_mem _ (List.mem_cons_of_mem _ (List.mem_cons_of_mem _ (List.mem_cons_of_mem _ (List.mem_cons_of_mem _ (List.mem_cons_of_mem _ (List.mem_cons_of_mem _ (List.mem_cons_self ..)))))))))))))
          rcases List.mem_cons.1 hx with rfl | hx
          · exact List.mem_cons_of_mem _ (List.mem_cons_of_mem _ (List.mem_cons_of_mem _ (List.mem_cons_of_mem _ (List.mem_cons_of_mem _ (List.mem_cons_of_mem _ (List.mem_cons_of_mem _ (List.mem_cons_of_mem _ (List.mem_cons_of_mem _ (List.mem_cons_of_mem _ (List.mem_cons_of_mem _ (List.mem_cons_of_mem _ (List.mem_cons_of_mem _ (List.mem_cons_of_mem _ (List.mem_cons_self ..))))))))))))))
          rcases List.mem_cons.1 hx with rfl | hx
          · exact List.mem_cons_of_mem _ (List.mem_cons_of_mem _ (List.mem_cons_of_mem _ (List.mem_cons_of_mem _ (List.mem_cons_of_mem _ (List.mem_cons_of_mem _ (List.mem_cons_of_mem _ (List.mem_cons_of_mem _ (List.mem_cons_of_mem _ (List.mem_cons_of_mem _ (List.mem_cons_of_mem _ (List.mem_cons_of_mem _ (List.mem_cons_of_mem _ (List.mem_cons_of_mem _ (List.mem_cons_of_mem _ (List.mem_cons_self ..)))))))))))))))
          rcases List.mem_cons.1 hx with rfl | hx
          · exact List.mem_cons_of_mem _ (List.mem_cons_of_mem _ (List.mem_cons_of_mem _ (List.mem_cons_of_mem _ (List.mem_cons_of_mem _ (List.mem_cons_of_mem _ (List.mem_cons_of_mem _ (List.mem_cons_of_mem _ (List.mem_cons_of_mem _ (List.mem_cons_of_mem _ (List.mem_cons_of_mem _ (List.mem_cons_of_mem _ (List.mem_cons_of_mem _ (List.mem_cons_of_mem _ (List.mem_cons_of_mem _ (List.mem_cons_of_mem _ (List.mem_cons_self ..))))))))))))))))
          rcases List.mem_cons.1 hx with rfl | hx
          · exact List.mem_cons_of_mem _ (List.mem_cons_of_mem _ (List.mem_cons_of_mem _ (List.mem_cons_of_mem _ (List.mem_cons_of_mem _ (List.mem_cons_of_mem _ (List.mem_cons_of_mem _ (List.mem_cons_of_mem _ (List.mem_cons_of_mem _ (List.mem_cons_of_mem _ (List.mem_cons_of_mem _ (List.mem_cons_of_mem _ (List.mem_cons_of_mem _ (List.mem_cons_of_mem _ (List.mem_cons_of_mem _ (List.mem_cons_of_mem _ (List.mem_cons_of_mem _ (List.mem_cons_self ..)))))))))))))))))
          cases hx
        clear hk
        have hk := hk2
        clear hk2
        refine wp_seq_k fun K5 hK5 => ?_
        refine wp_region_lit ?_
        refine list_k rfl rfl hk (by decide) (by repeat' (first | exact far_nil _ | refine far_cons (by decide) ?_)) (v := sv3) (do_move rfl (hk.at (List.mem_cons_self ..))) ?_
        clear hk; intro a hk
        refine list_k rfl rfl hk (by decide) (by repeat' (first | exact far_nil _ | refine far_cons (by decide) ?_)) (v := .int .u32 ((d : Nat) : Int)) (do_move rfl (hk.at (List.mem_cons_of_mem _ (List.mem_cons_of_mem _ (List.mem_cons_of_mem _ (List.mem_cons_self ..)))))) ?_
        clear hk; intro a hk
        refine list_k rfl rfl hk (by decide) (by repeat' (first | exact far_nil _ | refine far_cons (by decide) ?_)) (v := .int .i64 ((m : Nat) : Int)) (do_move rfl (hk.at (List.mem_cons_of_mem _ (List.mem_cons_of_mem _ (List.mem_cons_of_mem _ (List.mem_cons_self ..)))))) ?_
        clear hk; intro a hk
        refine wp_call rfl (do_call3 rfl (hk.at (List.mem_cons_of_mem _ (List.mem_cons_of_mem _ (List.mem_cons_self ..)))) (hk.at (List.mem_cons_of_mem _ (List.mem_cons_self ..))) (hk.at (List.mem_cons_self ..)) (ent3_a32 _ _ _)) (appv32_ok base _ _ d m _ HO (Nat.le_trans hbase hb14.size) hdl hm1 hm2 (by simp; omega)) ?_
        rintro e w15 ⟨sv4, rfl, HOn, gg⟩
        replace BK := BK.grown gg (own_ne HO BK (by decide))
        replace B5 := B5.grown gg (own_ne HO B5 (by decide))
        replace B7 := B7.grown gg (own_ne HO B7 (by decide))
        replace B8 := B8.grown gg (own_ne HO B8 (by decide))
        replace B10 := B10.grown gg (own_ne HO B10 (by decide))
        replace B12 := B12.grown gg (own_ne HO B12 (by decide))
        have hb15 := hb14.grown gg (Nat.le_trans hbase hb14.size) (fun j hj => (HO.lt j hj).1)
        clear gg HO hb14 
        have HO := HOn
        clear HOn
        refine ⟨_, rfl, ?_⟩
        refine keep_k (v := sv4) hk (by decide) (by repeat' (first | exact far_nil _ | refine far_cons (by decide) ?_)) ?_
        clear hk; intro a hk
        have hk2 : Keeps 144 ([(83, sv4), (82, .int .i64 ((m : Nat) : Int)), (81, .int .u32 ((d : Nat) : Int)), (80, sv3), (14, .int .i64 ((m : Nat) : Int)), (13, .int .u32 ((d : Nat) : Int)), (12, .pointer (some ⟨q12, 0, none⟩)), (11, .int .u32 ((tOf y : Nat) : Int)), (10, .pointer (some ⟨q10, 0, none⟩)), (9, .int .i64 ((j + 1 : Nat) : Int)), (8, .pointer (some ⟨q8, 0, none⟩)), (7, .pointer (some ⟨q7, 0, none⟩)), (6, .int .u32 ((tOf x : Nat) : Int)), (5, .pointer (some ⟨q5, 0, none⟩)), (1, .slice (some ⟨gk, 0, none⟩) n cap)]) a := by
          refine ⟨hk.1, hk.2.1, fun x hx => hk.2.2 x ?_⟩
          rcases List.mem_cons.1 hx with rfl | hx
          · exact List.mem_cons_self ..
          rcases List.mem_cons.1 hx with rfl | hx
          · exact List.mem_cons_of_mem _ (List.mem_cons_self ..)
          rcases List.mem_cons.1 hx with rfl | hx
          · exact List.mem_cons_of_mem _ (List.mem_cons_of_mem _ (List.mem_cons_self ..))
          rcases List.mem_cons.1 hx with rfl | hx
          · exact List.mem_cons_of_mem _ (List.mem_cons_of_mem _ (List.mem_cons_of_mem _ (List.mem_cons_self ..)))
          rcases List.mem_cons.1 hx with rfl | hx
          · exact List.mem_cons_of_mem _ (List.mem_cons_of_mem _ (List.mem_cons_of_mem _ (List.mem_cons_of_mem _ (List.mem_cons_of_mem _ (List.mem_cons_self ..)))))
          rcases List.mem_cons.1 hx with rfl | hx
          · exact List.mem_cons_of_mem _ (List.mem_cons_of_mem _ (List.mem_cons_of_mem _ (List.mem_cons_of_mem _ (List.mem_cons_of_mem _ (List.mem_cons_of_mem _ (List.mem_cons_self ..))))))
          rcases List.mem_cons.1 hx with rfl | hx
          · exact List.mem_cons_of_mem _ (List.mem_cons_of_mem _ (List.mem_cons_of_mem _ (List.mem_cons_of_mem _ (List.mem_cons_of_mem _ (List.mem_cons_of_mem _ (List.mem_cons_of_mem _ (List.mem_cons_self ..)))))))
          rcases List.mem_cons.1 hx with rfl | hx
          · exact List.mem_cons_of_mem _ (List.mem_cons_of_mem _ (List.mem_cons_of_mem _ (List.mem_cons_of_mem _ (List.mem_cons_of_mem _ (List.mem_cons_of_mem _ (List.mem_cons_of_mem _ (List.mem_cons_of_mem _ (List.mem_cons_self ..))))))))
          rcases List.mem_cons.1 hx with rfl | hx
          · exact List.mem_cons_of_mem _ (List.mem_cons_of_mem _ (List.mem_cons_of_mem _ (List.mem_cons_of_mem _ (List.mem_cons_of_mem _ (List.mem_cons_of_mem _ (List.mem_cons_of_mem _ (List.mem_cons_of_mem _ (List.mem_cons_of_mem _ (List.mem_cons_self ..)))))))))
          rcases List.mem_cons.1 hx with rfl | hx
          · exact List.mem_cons_of_mem _ (List.mem_cons_of_mem _ (List.mem_cons_of_mem _ (List.mem_cons_of_mem _ (List.mem_cons_of_mem _ (List.mem_cons_of_mem _ (List.mem_cons_of_mem _ (List.mem_cons_of_mem _ (List.mem_cons_of_mem _ (List.mem_cons_of_mem _ (List.mem_cons_self ..))))))))))
          rcases List.mem_cons.1 hx with rfl | hx
          · exact List.mem_cons_of_mem _ (List.mem_cons_of_mem _ (List.mem_cons_of_mem _ (List.mem_cons_of_mem _ (List.mem_cons_of_mem _ (List.mem_cons_of_mem _ (List.mem_cons_of_mem _ (List.mem_cons_of_mem _ (List.mem_cons_of_mem _ (List.mem_cons_of_mem _ (List.mem_cons_of_mem _ (List.mem_cons_self ..)))))))))))
          rcases List.mem_cons.1 hx with rfl | hx
          · exact List.mem_cons_of_mem _ (List.mem_cons_of_mem _ (List.mem_cons_of_mem _ (List.mem_cons_of_mem _ (List.mem_cons_of_mem _ (List.mem_cons_of_mem _ (List.mem_cons_of_mem _ (List.mem_cons_of_mem _ (List.mem_cons_of_mem _ (List.mem_cons_of_mem _ (List.mem_cons_of_mem _ (List.mem_cons_of_mem _ (List.mem_cons_self ..))))))))))))
          rcases List.mem_cons.1 hx with rfl | hx
          · exact List.mem_cons_of_mem _ (List.mem_cons_of_mem _ (List.mem_cons_of_mem _ (List.mem_cons_of_mem _ (List.mem_cons_of_mem _ (List.mem_cons_of_mem _ (List.mem_cons_of_mem _ (List.mem_cons_of_mem _ (List.mem_cons_of_mem _ (List.mem_cons_of_mem _ (List.mem_cons_of_mem _ (List.mem_cons_of_mem _ (List.mem_cons_of_mem _ (List.mem_cons_self ..)))))))))))))
          rcases List.mem_cons.1 hx with rfl | hx
          · exact List.mem_cons_of_mem _ (List.mem_cons_of_mem _ (List.mem_cons_of_mem _ (List.mem_cons_of_mem _ (List.mem_cons_of_mem _ (List.mem_cons_of_mem _ (List.mem_cons_of_mem _ (List.mem_cons_of_mem _ (List.mem_cons_of_mem _ (List.mem_cons_of_mem _ (List.mem_cons_of_mem _ (List.mem_cons_of_mem _ (List.mem_cons_of_mem _ (List.mem_cons_of_mem _ (List.mem_cons_self ..))))))))))))))
          rcases List.mem_cons.1 hx with rfl | hx
          · exact List.mem_cons_of_mem _ (List.mem_cons_of_mem _ (List.mem_cons_of_mem _ (List.mem_cons_of_mem _ (List.mem_cons_of_mem _ (List.mem_cons_of_mem _ (List.mem_cons_of_mem _ (List.mem_cons_of_mem _ (List.mem_cons_of_mem _ (List.mem_cons_of_mem _ (List.mem_cons_of_mem _ (List.mem_cons_of_mem _ (List.mem_cons_of_mem _ (List.mem_cons_of_mem _ (List.mem_cons_of_mem _ (List.mem_cons_self ..)))))))))))))))
          cases hx
        clear hk
        have hk := hk2
        clear hk2
        refine list_k rfl rfl hk (by decide) (by repeat' (first | exact far_nil _ | refine far_cons (by decide) ?_)) (v := sv4) (do_assign rfl (hk.at (List.mem_cons_self ..))) ?_
        clear hk; intro a hk
        refine hK5 _ _ ?_
        clear hK5
        have hk2 : Keeps 144 ([(0, sv4), (12, .pointer (some ⟨q12, 0, none⟩)), (11, .int .u32 ((tOf y : Nat) : Int)), (10, .pointer (some ⟨q10, 0, none⟩)), (9, .int .i64 ((j + 1 : Nat) : Int)), (8, .pointer (some ⟨q8, 0, none⟩)), (7, .pointer (some ⟨q7, 0, none⟩)), (6, .int .u32 ((tOf x : Nat) : Int)), (5, .pointer (some ⟨q5, 0, none⟩)), (1, .slice (some ⟨gk, 0, none⟩) n cap)]) a := by
          refine ⟨hk.1, hk.2.1, fun x hx => hk.2.2 x ?_⟩
          rcases List.mem_cons.1 hx with rfl | hx
          · exact List.mem_cons_self ..
          rcases List.mem_cons.1 hx with rfl | hx
          · exact List.mem_cons_of_mem _ (List.mem_cons_of_mem _ (List.mem_cons_of_mem _ (List.mem_cons_of_mem _ (List.mem_cons_of_mem _ (List.mem_cons_of_mem _ (List.mem_cons_of_mem _ (List.mem_cons_self ..)))))))
          rcases List.mem_cons.1 hx with rfl | hx
          · exact List.mem_cons_of_mem _ (List.mem_cons_of_mem _ (List.mem_cons_of_mem _ (List.mem_cons_of_mem _ (List.mem_cons_of_mem _ (List.mem_cons_of_mem _ (List.mem_cons_of_mem _ (List.mem_cons_of_mem _ (List.mem_cons_self ..))))))))
          rcases List.mem_cons.1 hx with rfl | hx
          · exact List.mem_cons_of_mem _ (List.mem_cons_of_mem _ (List.mem_cons_of_mem _ (List.mem_cons_of_mem _ (List.mem_cons_of_mem _ (List.mem_cons_of_mem _ (List.mem_cons_of_mem _ (List.mem_cons_of_mem _ (List.mem_cons_of_mem _ (List.mem_cons_self ..)))))))))
          rcases List.mem_cons.1 hx with rfl | hx
          · exact List.mem_cons_of_mem _ (List.mem_cons_of_mem _ (List.mem_cons_of_mem _ (List.mem_cons_of_mem _ (List.mem_cons_of_mem _ (List.mem_cons_of_mem _ (List.mem_cons_of_mem _ (List.mem_cons_of_mem _ (List.mem_cons_of_mem _ (List.mem_cons_of_mem _ (List.mem_cons_self ..))))))))))
          rcases List.mem_cons.1 hx with rfl | hx
          · exact List.mem_cons_of_mem _ (List.mem_cons_of_mem _ (List.mem_cons_of_mem _ (List.mem_cons_of_mem _ (List.mem_cons_of_mem _ (List.mem_cons_of_mem _ (List.mem_cons_of_mem _ (List.mem_cons_of_mem _ (List.mem_cons_of_mem _ (List.mem_cons_of_mem _ (List.mem_cons_of_mem _ (List.mem_cons_self ..)))))))))))
          rcases List.mem_cons.1 hx with rfl | hx
          · exact List.mem_cons_of_mem _ (List.mem_cons_of_mem _ (List.mem_cons_of_mem _ (List.mem_cons_of_mem _ (List.mem_cons_of_mem _ (List.mem_cons_of_mem _ (List.mem_cons_of_mem _ (List.mem_cons_of_mem _ (List.mem_cons_of_mem _ (List.mem_cons_of_mem _ (List.mem_cons_of_mem _ (List.mem_cons_of_mem _ (List.mem_cons_self ..))))))))))))
          rcases List.mem_cons.1 hx with rfl | hx
          · exact List.mem_cons_of_mem _ (List.mem_cons_of_mem _ (List.mem_cons_of_mem _ (List.mem_cons_of_mem _ (List.mem_cons_of_mem _ (List.mem_cons_of_mem _ (List.mem_cons_of_mem _ (List.mem_cons_of_mem _ (List.mem_cons_of_mem _ (List.mem_cons_of_mem _ (List.mem_cons_of_mem _ (List.mem_cons_of_mem _ (List.mem_cons_of_mem _ (List.mem_cons_self ..)))))))))))))
          rcases List.mem_cons.1 hx with rfl | hx
          · exact List.mem_cons_of_mem _ (List.mem_cons_of_mem _ (List.mem_cons_of_mem _ (List.mem_cons_of_mem _ (List.mem_cons_of_mem _ (List.mem_cons_of_mem _ (List.mem_cons_of_mem _ (List.mem_cons_of_mem _ (List.mem_cons_of_mem _ (List.mem_cons_of_mem _ (List.mem_cons_of_mem _ (List.mem_cons_of_mem _ (List.mem_cons_of_mem _ (List.mem_cons_of_mem _ (List.mem_cons_self ..))))))))))))))
          rcases List.mem_cons.1 hx with rfl | hx
          · exact List.mem_cons_of_mem _ (List.mem_cons_of_mem _ (List.mem_cons_of_mem _ (List.mem_cons_of_mem _ (List.mem_cons_of_mem _ (List.mem_cons_of_mem _ (List.mem_cons_of_mem _ (List.mem_cons_of_mem _ (List.mem_cons_of_mem _ (List.mem_cons_of_mem _ (List.mem_cons_of_mem _ (List.mem_cons_of_mem _ (List.mem_cons_of_mem _ (List.mem_cons_of_mem _ (List.mem_cons_of_mem _ (List.mem_cons_self ..)))))))))))))))
          cases hx
        clear hk
        have hk := hk2
        clear hk2
        refine wp_seq_k fun K5 hK5 => ?_
        refine wp_region_lit ?_
        refine list_k rfl rfl hk (by decide) (by repeat' (first | exact far_nil _ | refine far_cons (by decide) ?_)) (v := sv4) (do_move rfl (hk.at (List.mem_cons_self ..))) ?_
        clear hk; intro a hk
        refine list_k rfl rfl hk (by decide) (by repeat' (first | exact far_nil _ | refine far_cons (by decide) ?_)) (v := .slice (some ⟨q10, 0 + 4, none⟩) 16 16) (do_arrFrom (h := 4) rfl Try.underlying59 (by kernel_rfl) (hk.at (List.mem_cons_of_mem _ (List.mem_cons_of_mem _ (List.mem_cons_of_mem _ (List.mem_cons_of_mem _ (List.mem_cons_self ..)))))) rfl (by decide)) ?_
        clear hk; intro a hk
        refine wp_append_rd rfl rfl Try.underlying22 info5 rfl (hk.at (List.mem_cons_self ..)) (hk.at (List.mem_cons_of_mem _ (List.mem_cons_self ..))) HO (rd_part B10 hdy (by rw [List.length_drop, hy]) (by decide)) (by rw [List.length_drop, hy]) (by rw [List.length_drop, hy]; simp [be_length]; omega) (Nat.le_trans hbase hb15.size) ?_
        intro sv5 w16 HOn gg
        replace BK := BK.grown gg (own_ne HO BK (by decide))
        replace B5 := B5.grown gg (own_ne HO B5 (by decide))
        replace B7 := B7.grown gg (own_ne HO B7 (by decide))
        replace B8 := B8.grown gg (own_ne HO B8 (by decide))
        replace B10 := B10.grown gg (own_ne HO B10 (by decide))
        replace B12 := B12.grown gg (own_ne HO B12 (by decide))
        have hb16 := hb15.grown gg (Nat.le_trans hbase hb15.size) (fun j hj => (HO.lt j hj).1)
        clear gg HO hb15 
        have HO := HOn
        clear HOn
        refine keep_k (v := sv5) hk (by decide) (by repeat' (first | exact far_nil _ | refine far_cons (by decide) ?_)) ?_
        clear hk; intro a hk
        have hk2 : Keeps 144 ([(86, sv5), (85, .slice (some ⟨q10, 0 + 4, none⟩) 16 16), (84, sv4), (12, .pointer (some ⟨q12, 0, none⟩)), (11, .int .u32 ((tOf y : Nat) : Int)), (10, .pointer (some ⟨q10, 0, none⟩)), (9, .int .i64 ((j + 1 : Nat) : Int)), (8, .pointer (some ⟨q8, 0, none⟩)), (7, .pointer (some ⟨q7, 0, none⟩)), (6, .int .u32 ((tOf x : Nat) : Int)), (5, .pointer (some ⟨q5, 0, none⟩)), (1, .slice (some ⟨gk, 0, none⟩) n cap)]) a := by
          refine ⟨hk.1, hk.2.1, fun x hx => hk.2.2 x ?_⟩
          rcases List.mem_cons.1 hx with rfl | hx
          · exact List.mem_cons_self ..
          rcases List.mem_cons.1 hx with rfl | hx
          · exact List.mem_cons_of_mem _ (List.mem_cons_self ..)
          rcases List.mem_cons.1 hx with rfl | hx
          · exact List.mem_cons_of_mem _ (List.mem_cons_of_mem _ (List.mem_cons_self ..))
          rcases List.mem_cons.1 hx with rfl | hx
          · exact List.mem_cons_of_mem _ (List.mem_cons_of_mem _ (List.mem_cons_of_mem _ (List.mem_cons_of_mem _ (List.mem_cons_self ..))))
          rcases List.mem_cons.1 hx with rfl | hx
          · exact List.mem_cons_of_mem _ (List.mem_cons_of_mem _ (List.mem_cons_of_mem _ (List.mem_cons_of_mem _ (List.mem_cons_of_mem _ (List.mem_cons_self ..)))))
          rcases List.mem_cons.1 hx with rfl | hx
          · exact List.mem_cons_of_mem _ (List.mem_cons_of_mem _ (List.mem_cons_of_mem _ (List.mem_cons_of_mem _ (List.mem_cons_of_mem _ (List.mem_cons_of_mem _ (List.mem_cons_self ..))))))
          rcases List.mem_cons.1 hx with rfl | hx
          · exact List.mem_cons_of_mem _ (List.mem_cons_of_mem _ (List.mem_cons_of_mem _ (List.mem_cons_of_mem _ (List.mem_cons_of_mem _ (List.mem_cons_of_mem _ (List.mem_cons_of_mem _ (List.mem_cons_self ..)))))))
          rcases List.mem_cons.1 hx with rfl | hx
          · exact List.mem_cons_of_mem _ (List.mem_cons_of_mem _ (List.mem_cons_of_mem _ (List.mem_cons_of_mem _ (List.mem_cons_of_mem _ (List.mem_cons_of_mem _ (List.mem_cons_of_mem _ (List.mem_cons_of_mem _ (List.mem_cons_self ..))))))))
          rcases List.mem_cons.1 hx with rfl | hx
          · exact List.mem_cons_of_mem _ (List.mem_cons_of_mem _ (List.mem_cons_of_mem _ (List.mem_cons_of_mem _ (List.mem_cons_of_mem _ (List.mem_cons_of_mem _ (List.mem_cons_of_mem _ (List.mem_cons_of_mem _ (List.mem_cons_of_mem _ (List.mem_cons_self ..)))))))))
          rcases List.mem_cons.1 hx with rfl | hx
          · exact List.mem_cons_of_mem _ (List.mem_cons_of_mem _ (List.mem_cons_of_mem _ (List.mem_cons_of_mem _ (List.mem_cons_of_mem _ (List.mem_cons_of_mem _ (List.mem_cons_of_mem _ (List.mem_cons_of_mem _ (List.mem_cons_of_mem _ (List.mem_cons_of_mem _ (List.mem_cons_self ..))))))))))
          rcases List.mem_cons.1 hx with rfl | hx
          · exact List.mem_cons_of_mem _ (List.mem_cons_of_mem _ (List.mem_cons_of_mem _ (List.mem_cons_of_mem _ (List.mem_cons_of_mem _ (List.mem_cons_of_mem _ (List.mem_cons_of_mem _ (List.mem_cons_of_mem _ (List.mem_cons_of_mem _ (List.mem_cons_of_mem _ (List.mem_cons_of_mem _ (List.mem_cons_self ..)))))))))))
          rcases List.mem_cons.1 hx with rfl | hx
          · exact List.mem_cons_of_mem _ (List.mem_cons_of_mem _ (List.mem_cons_of_mem _ (List.mem_cons_of_mem _ (List.mem_cons_of_mem _ (List.mem_cons_of_mem _ (List.mem_cons_of_mem _ (List.mem_cons_of_mem _ (List.mem_cons_of_mem _ (List.mem_cons_of_mem _ (List.mem_cons_of_mem _ (List.mem_cons_of_mem _ (List.mem_cons_self ..))))))))))))
          cases hx
        clear hk
        have hk := hk2
        clear hk2
        refine list_k rfl rfl hk (by decide) (by repeat' (first | exact far_nil _ | refine far_cons (by decide) ?_)) (v := sv5) (do_assign rfl (hk.at (List.mem_cons_self ..))) ?_
        clear hk; intro a hk
        refine hK5 _ _ ?_
        clear hK5
        have hk2 : Keeps 144 ([(0, sv5), (12, .pointer (some ⟨q12, 0, none⟩)), (11, .int .u32 ((tOf y : Nat) : Int)), (10, .pointer (some ⟨q10, 0, none⟩)), (9, .int .i64 ((j + 1 : Nat) : Int)), (8, .pointer (some ⟨q8, 0, none⟩)), (7, .pointer (some ⟨q7, 0, none⟩)), (6, .int .u32 ((tOf x : Nat) : Int)), (5, .pointer (some ⟨q5, 0, none⟩)), (1, .slice (some ⟨gk, 0, none⟩) n cap)]) a := by
          refine ⟨hk.1, hk.2.1, fun x hx => hk.2.2 x ?_⟩
          rcases List.mem_cons.1 hx with rfl | hx
          · exact List.mem_cons_self ..
          rcases List.mem_cons.1 hx with rfl | hx
          · exact List.mem_cons_of_mem _ (List.mem_cons_of_mem _ (List.mem_cons_of_mem _ (List.mem_cons_of_mem _ (List.mem_cons_self ..))))
          rcases List.mem_cons.1 hx with rfl | hx
          · exact List.mem_cons_of_mem _ (List.mem_cons_of_mem _ (List.mem_cons_of_mem _ (List.mem_cons_of_mem _ (List.mem_cons_of_mem _ (List.mem_cons_self ..)))))
          rcases List.mem_cons.1 hx with rfl | hx
          · exact List.mem_cons_of_mem _ (List.mem_cons_of_mem _ (List.mem_cons_of_mem _ (List.mem_cons_of_mem _ (List.mem_cons_of_mem _ (List.mem_cons_of_mem _ (List.mem_cons_self ..))))))
          rcases List.mem_cons.1 hx with rfl | hx
          · exact List.mem_cons_of_mem _ (List.mem_cons_of_mem _ (List.mem_cons_of_mem _ (List.mem_cons_of_mem _ (List.mem_cons_of_mem _ (List.mem_cons_of_mem _ (List.mem_cons_of_mem _ (List.mem_cons_self ..)))))))
          rcases List.mem_cons.1 hx with rfl | hx
          · exact List.mem_cons_of_mem _ (List.mem_cons_of_mem _ (List.mem_cons_of_mem _ (List.mem_cons_of_mem _ (List.mem_cons_of_mem _ (List.mem_cons_of_mem _ (List.mem_cons_of_mem _ (List.mem_cons_of_mem _ (List.mem_cons_self ..))))))))
          rcases List.mem_cons.1 hx with rfl | hx
          · exact List.mem_cons_of_mem _ (List.mem_cons_of_mem _ (List.mem_cons_of_mem _ (List.mem_cons_of_mem _ (List.mem_cons_of_mem _ (List.mem_cons_of_mem _ (List.mem_cons_of_mem _ (List.mem_cons_of_mem _ (List.mem_cons_of_mem _ (List.mem_cons_self ..)))))))))
          rcases List.mem_cons.1 hx with rfl | hx
          · exact List.mem_cons_of_mem _ (List.mem_cons_of_mem _ (List.mem_cons_of_mem _ (List.mem_cons_of_mem _ (List.mem_cons_of_mem _ (List.mem_cons_of_mem _ (List.mem_cons_of_mem _ (List.mem_cons_of_mem _ (List.mem_cons_of_mem _ (List.mem_cons_of_mem _ (List.mem_cons_self ..))))))))))
          rcases List.mem_cons.1 hx with rfl | hx
          · exact List.mem_cons_of_mem _ (List.mem_cons_of_mem _ (List.mem_cons_of_mem _ (List.mem_cons_of_mem _ (List.mem_cons_of_mem _ (List.mem_cons_of_mem _ (List.mem_cons_of_mem _ (List.mem_cons_of_mem _ (List.mem_cons_of_mem _ (List.mem_cons_of_mem _ (List.mem_cons_of_mem _ (List.mem_cons_self ..)))))))))))
          rcases List.mem_cons.1 hx with rfl | hx
          · exact List.mem_cons_of_mem _ (List.mem_cons_of_mem _ (List.mem_cons_of_mem _ (List.mem_cons_of_mem _ (List.mem_cons_of_mem _ (List.mem_cons_of_mem _ (List.mem_cons_of_mem _ (List.mem_cons_of_mem _ (List.mem_cons_of_mem _ (List.mem_cons_of_mem _ (List.mem_cons_of_mem _ (List.mem_cons_of_mem _ (List.mem_cons_self ..))))))))))))
          cases hx
        clear hk
        have hk := hk2
        clear hk2
        refine wp_region_lit ?_
        refine list_k rfl rfl hk (by decide) (by repeat' (first | exact far_nil _ | refine far_cons (by decide) ?_)) (v := .int .u32 ((tOf y : Nat) : Int)) (do_move rfl (hk.at (List.mem_cons_of_mem _ (List.mem_cons_of_mem _ (List.mem_cons_self ..))))) ?_
        clear hk; intro a hk
        have hk2 : Keeps 144 ([(87, .int .u32 ((tOf y : Nat) : Int)), (0, sv5), (12, .pointer (some ⟨q12, 0, none⟩)), (11, .int .u32 ((tOf y : Nat) : Int)), (10, .pointer (some ⟨q10, 0, none⟩)), (9, .int .i64 ((j + 1 : Nat) : Int)), (8, .pointer (some ⟨q8, 0, none⟩)), (7, .pointer (some ⟨q7, 0, none⟩)), (5, .pointer (some ⟨q5, 0, none⟩)), (1, .slice (some ⟨gk, 0, none⟩) n cap)]) a := by
          refine ⟨hk.1, hk.2.1, fun x hx => hk.2.2 x ?_⟩
          rcases List.mem_cons.1 hx with rfl | hx
          · exact List.mem_cons_self ..
          rcases List.mem_cons.1 hx with rfl | hx
          · exact List.mem_cons_of_mem _ (List.mem_cons_self ..)
          rcases List.mem_cons.1 hx with rfl | hx
          · exact List.mem_cons_of_mem _ (List.mem_cons_of_mem _ (List.mem_cons_self ..))
          rcases List.mem_cons.1 hx with rfl | hx
          · exact List.mem_cons_of_mem _ (List.mem_cons_of_mem _ (List.mem_cons_of_mem _ (List.mem_cons_self ..)))
          rcases List.mem_cons.1 hx with rfl | hx
          · exact List.mem_cons_of_mem _ (List.mem_cons_of_mem _ (List.mem_cons_of_mem _ (List.mem_cons_of_mem _ (List.mem_cons_self ..))))
          rcases List.mem_cons.1 hx with rfl | hx
          · exact List.mem_cons_of_mem _ (List.mem_cons_of_mem _ (List.mem_cons_of_mem _ (List.mem_cons_of_mem _ (List.mem_cons_of_mem _ (List.mem_cons_self ..)))))
          rcases List.mem_cons.1 hx with rfl | hx
          · exact List.mem_cons_of_mem _ (List.mem_cons_of_mem _ (List.mem_cons_of_mem _ (List.mem_cons_of_mem _ (List.mem_cons_of_mem _ (List.mem_cons_of_mem _ (List.mem_cons_self ..))))))
          rcases List.mem_cons.1 hx with rfl | hx
          · exact List.mem_cons_of_mem _ (List.mem_cons_of_mem _ (List.mem_cons_of_mem _ (List.mem_cons_of_mem _ (List.mem_cons_of_mem _ (List.mem_cons_of_mem _ (List.mem_cons_of_mem _ (List.mem_cons_self ..)))))))
          rcases List.mem_cons.1 hx with rfl | hx
          · exact List.mem_cons_of_mem _ (List.mem_cons_of_mem _ (List.mem_cons_of_mem _ (List.mem_cons_of_mem _ (List.mem_cons_of_mem _ (List.mem_cons_of_mem _ (List.mem_cons_of_mem _ (List.mem_cons_of_mem _ (List.mem_cons_of_mem _ (List.mem_cons_self ..)))))))))
          rcases List.mem_cons.1 hx with rfl | hx
          · exact List.mem_cons_of_mem _ (List.mem_cons_of_mem _ (List.mem_cons_of_mem _ (List.mem_cons_of_mem _ (List.mem_cons_of_mem _ (List.mem_cons_of_mem _ (List.mem_cons_of_mem _ (List.mem_cons_of_mem _ (List.mem_cons_of_mem _ (List.mem_cons_of_mem _ (List.mem_cons_self ..))))))))))
          cases hx
        clear hk
        have hk := hk2
        clear hk2
        refine list_k rfl rfl hk (by decide) (by repeat' (first | exact far_nil _ | refine far_cons (by decide) ?_)) (v := .int .u32 ((tOf y : Nat) : Int)) (do_assign rfl (hk.at (List.mem_cons_self ..))) ?_
        clear hk; intro a hk
        have hk2 : Keeps 144 ([(6, .int .u32 ((tOf y : Nat) : Int)), (0, sv5), (12, .pointer (some ⟨q12, 0, none⟩)), (11, .int .u32 ((tOf y : Nat) : Int)), (10, .pointer (some ⟨q10, 0, none⟩)), (9, .int .i64 ((j + 1 : Nat) : Int)), (8, .pointer (some ⟨q8, 0, none⟩)), (7, .pointer (some ⟨q7, 0, none⟩)), (5, .pointer (some ⟨q5, 0, none⟩)), (1, .slice (some ⟨gk, 0, none⟩) n cap)]) a := by
          refine ⟨hk.1, hk.2.1, fun x hx => hk.2.2 x ?_⟩
          rcases List.mem_cons.1 hx with rfl | hx
          · exact List.mem_cons_self ..
          rcases List.mem_cons.1 hx with rfl | hx
          · exact List.mem_cons_of_mem _ (List.mem_cons_of_mem _ (List.mem_cons_self ..))
          rcases List.mem_cons.1 hx with rfl | hx
          · exact List.mem_cons_of_mem _ (List.mem_cons_of_mem _ (List.mem_cons_of_mem _ (List.mem_cons_self ..)))
          rcases List.mem_cons.1 hx with rfl | hx
          · exact List.mem_cons_of_mem _ (List.mem_cons_of_mem _ (List.mem_cons_of_mem _ (List.mem_cons_of_mem _ (List.mem_cons_self ..))))
          rcases List.mem_cons.1 hx with rfl | hx
          · exact List.mem_cons_of_mem _ (List.mem_cons_of_mem _ (List.mem_cons_of_mem _ (List.mem_cons_of_mem _ (List.mem_cons_of_mem _ (List.mem_cons_self ..)))))
          rcases List.mem_cons.1 hx with rfl | hx
          · exact List.mem_cons_of_mem _ (List.mem_cons_of_mem _ (List.mem_cons_of_mem _ (List.mem_cons_of_mem _ (List.mem_cons_of_mem _ (List.mem_cons_of_mem _ (List.mem_cons_self ..))))))
          rcases List.mem_cons.1 hx with rfl | hx
          · exact List.mem_cons_of_mem _ (List.mem_cons_of_mem _ (List.mem_cons_of_mem _ (List.mem_cons_of_mem _ (List.mem_cons_of_mem _ (List.mem_cons_of_mem _ (List.mem_cons_of_mem _ (List.mem_cons_self ..)))))))
          rcases List.mem_cons.1 hx with rfl | hx
          · exact List.mem_cons_of_mem _ (List.mem_cons_of_mem _ (List.mem_cons_of_mem _ (List.mem_cons_of_mem _ (List.mem_cons_of_mem _ (List.mem_cons_of_mem _ (List.mem_cons_of_mem _ (List.mem_cons_of_mem _ (List.mem_cons_self ..))))))))
          rcases List.mem_cons.1 hx with rfl | hx
          · exact List.mem_cons_of_mem _ (List.mem_cons_of_mem _ (List.mem_cons_of_mem _ (List.mem_cons_of_mem _ (List.mem_cons_of_mem _ (List.mem_cons_of_mem _ (List.mem_cons_of_mem _ (List.mem_cons_of_mem _ (List.mem_cons_of_mem _ (List.mem_cons_self ..)))))))))
          rcases List.mem_cons.1 hx with rfl | hx
          · exact List.mem_cons_of_mem _ (List.mem_cons_of_mem _ (List.mem_cons_of_mem _ (List.mem_cons_of_mem _ (List.mem_cons_of_mem _ (List.mem_cons_of_mem _ (List.mem_cons_of_mem _ (List.mem_cons_of_mem _ (List.mem_cons_of_mem _ (List.mem_cons_of_mem _ (List.mem_cons_self ..))))))))))
          cases hx
        clear hk
        have hk := hk2
        clear hk2
        subst hye
        have hyl : (xs ++ [UInt8.ofNat (64 + m)] ++ be m d ++ (ss.getD (j + 1) []).drop 4).length ≤ 40 * (j + 1 + 1) := by
          rw [List.length_append, List.length_append, List.length_append, be_length, List.length_drop, hy, List.length_singleton]
          omega
        exact HEND _ _ (j + 1) _ _ (Nat.le_refl _) (by omega) (hk.sub (fun x hx => by simp at hx ⊢; rcases hx with rfl | rfl | rfl | rfl | rfl | rfl | rfl | rfl | rfl <;> simp)) B12 B10 B5 B7 B8 BK HO hyl hb16 (enc_app (a := UInt8.ofNat (64 + m) :: (be m d ++ (ss.getD (j + 1) []).drop 4)) HE (fun b hb => by rw [List.cons_append, List.append_assoc]; exact enc_time hj2 rfl hy hm1 hm2 hm3 hdd hb) (by rw [List.append_assoc, List.append_assoc]; rfl))
      case pos =>
        refine hK5 _ _ (wp_cond_false ((hk.at (List.mem_cons_self ..)).trans (congrArg Value.bool (decide_eq_false (fun h => h htt)))) ?_)
        clear hK5
        have hk2 : Keeps 144 ([(12, .pointer (some ⟨q12, 0, none⟩)), (11, .int .u32 ((tOf y : Nat) : Int)), (10, .pointer (some ⟨q10, 0, none⟩)), (9, .int .i64 ((j + 1 : Nat) : Int)), (8, .pointer (some ⟨q8, 0, none⟩)), (7, .pointer (some ⟨q7, 0, none⟩)), (6, .int .u32 ((tOf x : Nat) : Int)), (5, .pointer (some ⟨q5, 0, none⟩)), (1, .slice (some ⟨gk, 0, none⟩) n cap), (0, sv)]) a := by
          refine ⟨hk.1, hk.2.1, fun x hx => hk.2.2 x ?_⟩
          rcases List.mem_cons.1 hx with rfl | hx
          · exact List.mem_cons_of_mem _ (List.mem_cons_of_mem _ (List.mem_cons_of_mem _ (List.mem_cons_self ..)))
          rcases List.mem_cons.1 hx with rfl | hx
          · exact List.mem_cons_of_mem _ (List.mem_cons_of_mem _ (List.mem_cons_of_mem _ (List.mem_cons_of_mem _ (List.mem_cons_self ..))))
          rcases List.mem_cons.1 hx with rfl | hx
          · exact List.mem_cons_of_mem _ (List.mem_cons_of_mem _ (List.mem_cons_of_mem _ (List.mem_cons_of_mem _ (List.mem_cons_of_mem _ (List.mem_cons_self ..)))))
          rcases List.mem_cons.1 hx with rfl | hx
          · exact List.mem_cons_of_mem _ (List.mem_cons_of_mem _ (List.mem_cons_of_mem _ (List.mem_cons_of_mem _ (List.mem_cons_of_mem _ (List.mem_cons_of_mem _ (List.mem_cons_self ..))))))
          rcases List.mem_cons.1 hx with rfl | hx
          · exact List.mem_cons_of_mem _ (List.mem_cons_of_mem _ (List.mem_cons_of_mem _ (List.mem_cons_of_mem _ (List.mem_cons_of_mem _ (List.mem_cons_of_mem _ (List.mem_cons_of_mem _ (List.mem_cons_self ..)))))))
          rcases List.mem_cons.1 hx with rfl | hx
          · exact List.mem_cons_of_mem _ (List.mem_cons_of_mem _ (List.mem_cons_of_mem _ (List.mem_cons_of_mem _ (List.mem_cons_of_mem _ (List.mem_cons_of_mem _ (List.mem_cons_of_mem _ (List.mem_cons_of_mem _ (List.mem_cons_self ..))))))))
          rcases List.mem_cons.1 hx with rfl | hx
          · exact List.mem_cons_of_mem _ (List.mem_cons_of_mem _ (List.mem_cons_of_mem _ (List.mem_cons_of_mem _ (List.mem_cons_of_mem _ (List.mem_cons_of_mem _ (List.mem_cons_of_mem _ (List.mem_cons_of_mem _ (List.mem_cons_of_mem _ (List.mem_cons_self ..)))))))))
          rcases List.mem_cons.1 hx with rfl | hx
          · exact List.mem_cons_of_mem _ (List.mem_cons_of_mem _ (List.mem_cons_of_mem _ (List.mem_cons_of_mem _ (List.mem_cons_of_mem _ (List.mem_cons_of_mem _ (List.mem_cons_of_mem _ (List.mem_cons_of_mem _ (List.mem_cons_of_mem _ (List.mem_cons_of_mem _ (List.mem_cons_self ..))))))))))
          rcases List.mem_cons.1 hx with rfl | hx
          · exact List.mem_cons_of_mem _ (List.mem_cons_of_mem _ (List.mem_cons_of_mem _ (List.mem_cons_of_mem _ (List.mem_cons_of_mem _ (List.mem_cons_of_mem _ (List.mem_cons_of_mem _ (List.mem_cons_of_mem _ (List.mem_cons_of_mem _ (List.mem_cons_of_mem _ (List.mem_cons_of_mem _ (List.mem_cons_self ..)))))))))))
          rcases List.mem_cons.1 hx with rfl | hx
          · exact List.mem_cons_of_mem _ (List.mem_cons_of_mem _ (List.mem_cons_of_mem _ (List.mem_cons_of_mem _ (List.mem_cons_of_mem _ (List.mem_cons_of_mem _ (List.mem_cons_of_mem _ (List.mem_cons_of_mem _ (List.mem_cons_of_mem _ (List.mem_cons_of_mem _ (List.mem_cons_of_mem _ (List.mem_cons_of_mem _ (List.mem_cons_self ..))))))))))))
          cases hx
        clear hk
        have hk := hk2
        clear hk2
        have hlt3 : vOf x < vOf y := hst.2 htt.symm
        refine wp_seq_k fun K5 hK5 => ?_
        refine wp_region_lit ?_
        refine list_k rfl rfl hk (by decide) (by repeat' (first | exact far_nil _ | refine far_cons (by decide) ?_)) (v := .agg (uN (vOf y)).toArray) (do_ldA u128Arr rfl (hk.at (List.mem_cons_self ..)) B12 rfl) ?_
        clear hk; intro a hk
        refine list_k rfl rfl hk (by decide) (by repeat' (first | exact far_nil _ | refine far_cons (by decide) ?_)) (v := .agg (uN (vOf x)).toArray) (do_ldA u128Arr rfl (hk.at (List.mem_cons_of_mem _ (List.mem_cons_of_mem _ (List.mem_cons_of_mem _ (List.mem_cons_of_mem _ (List.mem_cons_of_mem _ (List.mem_cons_self ..))))))) B8 rfl) ?_
        clear hk; intro a hk
        refine wp_call rfl (do_call2  rfl (hk.at (List.mem_cons_of_mem _ (List.mem_cons_self ..))) (hk.at (List.mem_cons_self ..)) (ent2_sub _ _)) (subN_ok (vOf y) (vOf x) _ hvy (Nat.le_of_lt hlt3)) ?_
        rintro e w12 ⟨rfl, hbc⟩
        replace BK := BK.kept hbc
        replace HO := OwnB.kept HO hbc
        replace B5 := B5.kept hbc
        replace B7 := B7.kept hbc
        replace B8 := B8.kept hbc
        replace B10 := B10.kept hbc
        replace B12 := B12.kept hbc
        have hb12 := hb11.trans (hbc.mono (Nat.le_trans hbase hb11.size))
        clear hbc
        refine ⟨_, rfl, ?_⟩
        refine keep_k (v := .agg (uN (vOf y - vOf x)).toArray) hk (by decide) (by repeat' (first | exact far_nil _ | refine far_cons (by decide) ?_)) ?_
        clear hk; intro a hk
        obtain ⟨q15, hq15⟩ : ∃ q, q = w12.heap.size := ⟨_, rfl⟩
        have : gk < q15 := by rw [hq15]; exact BK.lt
        have : q5 < q15 := by rw [hq15]; exact B5.lt
        have : q7 < q15 := by rw [hq15]; exact B7.lt
        have : q8 < q15 := by rw [hq15]; exact B8.lt
        have : q10 < q15 := by rw [hq15]; exact B10.lt
        have : q12 < q15 := by rw [hq15]; exact B12.lt
        have hBq15 : base ≤ q15 := by rw [hq15]; exact Nat.le_trans hbase hb12.size
        refine wp_alloc_blk u128Arr hb12 rfl rfl hq15.symm hBq15 ?_
        intro w13 B15 gg ss hb13
        clear ss hq15
        replace BK := BK.grown gg (by simp)
        replace HO := OwnB.kept HO (below_grown gg)
        replace B5 := B5.grown gg (by simp)
        replace B7 := B7.grown gg (by simp)
        replace B8 := B8.grown gg (by simp)
        replace B10 := B10.grown gg (by simp)
        replace B12 := B12.grown gg (by simp)
        clear gg
        refine keep_k (v := .pointer (some ⟨q15, 0, none⟩)) hk (by decide) (by repeat' (first | exact far_nil _ | refine far_cons (by decide) ?_)) ?_
        clear hk; intro a hk
        refine wp_store_blk u128Arr hb13 rfl rfl (hk.at (List.mem_cons_self ..)) (cs := uN (vOf y - vOf x)) (hk.at (List.mem_cons_of_mem _ (List.mem_cons_self ..))) B15 hBq15 rfl rfl (uN_one _) ?_
        intro w14 B15n gg ss hb14
        clear ss
        replace BK := BK.grown gg (by intro e; have := Option.some.inj e; omega)
        replace HO := OwnB.keptG HO gg (.inr (fun e => own_ne HO B15 (by decide) e.symm))
        replace B5 := B5.grown gg (by intro e; have := Option.some.inj e; omega)
        replace B7 := B7.grown gg (by intro e; have := Option.some.inj e; omega)
        replace B8 := B8.grown gg (by intro e; have := Option.some.inj e; omega)
        replace B10 := B10.grown gg (by intro e; have := Option.some.inj e; omega)
        replace B12 := B12.grown gg (by intro e; have := Option.some.inj e; omega)
        clear gg B15
        have B15 := B15n
        clear B15n
        refine keep_0 hk ?_
        clear hk; intro a hk
        refine hK5 _ _ ?_
        clear hK5
        have hk2 : Keeps 144 ([(15, .pointer (some ⟨q15, 0, none⟩)), (12, .pointer (some ⟨q12, 0, none⟩)), (11, .int .u32 ((tOf y : Nat) : Int)), (10, .pointer (some ⟨q10, 0, none⟩)), (9, .int .i64 ((j + 1 : Nat) : Int)), (8, .pointer (some ⟨q8, 0, none⟩)), (7, .pointer (some ⟨q7, 0, none⟩)), (6, .int .u32 ((tOf x : Nat) : Int)), (5, .pointer (some ⟨q5, 0, none⟩)), (1, .slice (some ⟨gk, 0, none⟩) n cap), (0, sv)]) a := by
          refine ⟨hk.1, hk.2.1, fun x hx => hk.2.2 x ?_⟩
          rcases List.mem_cons.1 hx with rfl | hx
          · exact List.mem_cons_self ..
          rcases List.mem_cons.1 hx with rfl | hx
          · exact List.mem_cons_of_mem _ (List.mem_cons_of_mem _ (List.mem_cons_of_mem _ (List.mem_cons_of_mem _ (List.mem_cons_self ..))))
          rcases List.mem_cons.1 hx with rfl | hx
          · exact List.mem_cons_of_mem _ (List.mem_cons_of_mem _ (List.mem_cons_of_mem _ (List.mem_cons_of_mem _ (List.mem_cons_of_mem _ (List.mem_cons_self ..)))))
          rcases List.mem_cons.1 hx with rfl | hx
          · exact List.mem_cons_of_mem _ (List.mem_cons_of_mem _ (List.mem_cons_of_mem _ (List.mem_cons_of_mem _ (List.mem_cons_of_mem _ (List.mem_cons_of_mem _ (List.mem_cons_self ..))))))
          rcases List.mem_cons.1 hx with rfl | hx
          · exact List.mem_cons_of_mem _ (List.mem_cons_of_mem _ (List.mem_cons_of_mem _ (List.mem_cons_of_mem _ (List.mem_cons_of_mem _ (List.mem_cons_of_mem _ (List.mem_cons_of_mem _ (List.mem_cons_self ..)))))))
          rcases List.mem_cons.1 hx with rfl | hx
          · exact List.mem_cons_of_mem _ (List.mem_cons_of_mem _ (List.mem_cons_of_mem _ (List.mem_cons_of_mem _ (List.mem_cons_of_mem _ (List.mem_cons_of_mem _ (List.mem_cons_of_mem _ (List.mem_cons_of_mem _ (List.mem_cons_self ..))))))))
          rcases List.mem_cons.1 hx with rfl | hx
          · exact List.mem_cons_of_mem _ (List.mem_cons_of_mem _ (List.mem_cons_of_mem _ (List.mem_cons_of_mem _ (List.mem_cons_of_mem _ (List.mem_cons_of_mem _ (List.mem_cons_of_mem _ (List.mem_cons_of_mem _ (List.mem_cons_of_mem _ (List.mem_cons_self ..)))))))))
          rcases List.mem_cons.1 hx with rfl | hx
          · exact List.mem_cons_of_mem _ (List.mem_cons_of_mem _ (List.mem_cons_of_mem _ (List.mem_cons_of_mem _ (List.mem_cons_of_mem _ (List.mem_cons_of_mem _ (List.mem_cons_of_mem _ (List.mem_cons_of_mem _ (List.mem_cons_of_mem _ (List.mem_cons_of_mem _ (List.mem_cons_self ..))))))))))
          rcases List.mem_cons.1 hx with rfl | hx
          · exact List.mem_cons_of_mem _ (List.mem_cons_of_mem _ (List.mem_cons_of_mem _ (List.mem_cons_of_mem _ (List.mem_cons_of_mem _ (List.mem_cons_of_mem _ (List.mem_cons_of_mem _ (List.mem_cons_of_mem _ (List.mem_cons_of_mem _ (List.mem_cons_of_mem _ (List.mem_cons_of_mem _ (List.mem_cons_self ..)))))))))))
          rcases List.mem_cons.1 hx with rfl | hx
          · exact List.mem_cons_of_mem _ (List.mem_cons_of_mem _ (List.mem_cons_of_mem _ (List.mem_cons_of_mem _ (List.mem_cons_of_mem _ (List.mem_cons_of_mem _ (List.mem_cons_of_mem _ (List.mem_cons_of_mem _ (List.mem_cons_of_mem _ (List.mem_cons_of_mem _ (List.mem_cons_of_mem _ (List.mem_cons_of_mem _ (List.mem_cons_self ..))))))))))))
          rcases List.mem_cons.1 hx with rfl | hx
          · exact List.mem_cons_of_mem _ (List.mem_cons_of_mem _ (List.mem_cons_of_mem _ (List.mem_cons_of_mem _ (List.mem_cons_of_mem _ (List.mem_cons_of_mem _ (List.mem_cons_of_mem _ (List.mem_cons_of_mem _ (List.mem_cons_of_mem _ (List.mem_cons_of_mem _ (List.mem_cons_of_mem _ (List.mem_cons_of_mem _ (List.mem_cons_of_mem _ (List.mem_cons_self ..)))))))))))))
          cases hx
        clear hk
        have hk := hk2
        clear hk2
        have hdd : vOf y = vOf x + (vOf y - vOf x) := by omega
        have hdl : vOf y - vOf x < 340282366920938463463374607431768211456 := by omega
        obtain ⟨d, hde⟩ : ∃ d, d = vOf y - vOf x := ⟨_, rfl⟩
        rw [← hde] at B15 hdd hdl
        clear hde
        refine wp_seq_k fun K5 hK5 => ?_
        refine wp_region_lit ?_
        refine list_k rfl rfl hk (by decide) (by repeat' (first | exact far_nil _ | refine far_cons (by decide) ?_)) (v := .agg (uN (d)).toArray) (do_ldA u128Arr rfl (hk.at (List.mem_cons_self ..)) B15 rfl) ?_
        clear hk; intro a hk
        refine list_k rfl rfl hk (by decide) (by repeat' (first | exact far_nil _ | refine far_cons (by decide) ?_)) (v := .agg (uN (1)).toArray) (do_ldA u128Arr rfl (hk.at (List.mem_cons_of_mem _ (List.mem_cons_of_mem _ (List.mem_cons_of_mem _ (List.mem_cons_of_mem _ (List.mem_cons_of_mem _ (List.mem_cons_of_mem _ (List.mem_cons_of_mem _ (List.mem_cons_of_mem _ (List.mem_cons_of_mem _ (List.mem_cons_self ..))))))))))) B5 rfl) ?_
        clear hk; intro a hk
        refine list_k rfl rfl hk (by decide) (by repeat' (first | exact far_nil _ | refine far_cons (by decide) ?_)) (v := .bool (!decide (d = 1))) (do_neA rfl (by kernel_rfl) (hk.at (List.mem_cons_of_mem _ (List.mem_cons_self ..))) (hk.at (List.mem_cons_self ..)) (eqN _ _)) ?_
        clear hk; intro a hk
        by_cases hd1 : d = 1
        case neg =>
          refine hK5 _ _ (wp_cond_true ((hk.at (List.mem_cons_self ..)).trans (congrArg (fun b => Value.bool (!b)) (decide_eq_false hd1))) ?_)
          clear hK5
          have hk2 : Keeps 144 ([(15, .pointer (some ⟨q15, 0, none⟩)), (12, .pointer (some ⟨q12, 0, none⟩)), (11, .int .u32 ((tOf y : Nat) : Int)), (10, .pointer (some ⟨q10, 0, none⟩)), (9, .int .i64 ((j + 1 : Nat) : Int)), (8, .pointer (some ⟨q8, 0, none⟩)), (7, .pointer (some ⟨q7, 0, none⟩)), (6, .int .u32 ((tOf x : Nat) : Int)), (5, .pointer (some ⟨q5, 0, none⟩)), (1, .slice (some ⟨gk, 0, none⟩) n cap), (0, sv)]) a := by
            refine ⟨hk.1, hk.2.1, fun x hx => hk.2.2 x ?_⟩
            rcases List.mem_cons.1 hx with rfl | hx
            · exact List.mem_cons_of_mem _ (List.mem_cons_of_mem _ (List.mem_cons_of_mem _ (List.mem_cons_self ..)))
            rcases List.mem_cons.1 hx with rfl | hx
            · exact List.mem_cons_of_mem _ (List.mem_cons_of_mem _ (List.mem_cons_of_mem _ (List.mem_cons_of_mem _ (List.mem_cons_self ..))))
            rcases List.mem_cons.1 hx with rfl | hx
            · exact List.mem_cons_of_mem _ (List.mem_cons_of_mem _ (List.mem_cons_of_mem _ (List.mem_cons_of_mem _ (List.mem_cons_of_mem _ (List.mem_cons_self ..)))))
            rcases List.mem_cons.1 hx with rfl | hx
            · exact List.mem_cons_of_mem _ (List.mem_cons_of_mem _ (List.mem_cons_of_mem _ (List.mem_cons_of_mem _ (List.mem_cons_of_mem _ (List.mem_cons_of_mem _ (List.mem_cons_self ..))))))
            rcases List.mem_cons.1 hx with rfl | hx
            · exact List.mem_cons_of_mem _ (List.mem_cons_of_mem _ (List.mem_cons_of_mem _ (List.mem_cons_of_mem _ (List.mem_cons_of_mem _ (List.mem_cons_of_mem _ (List.mem_cons_of_mem _ (List.mem_cons_self ..)))))))
            rcases List.mem_cons.1 hx with rfl | hx
            · exact List.mem_cons_of_mem _ (List.mem_cons_of_mem _ (List.mem_cons_of_mem _ (List.mem_cons_of_mem _ (List.mem_cons_of_mem _ (List.mem_cons_of_mem _ (List.mem_cons_of_mem _ (List.mem_cons_of_mem _ (List.mem_cons_self ..))))))))
            rcases List.mem_cons.1 hx with rfl | hx
            · exact List.mem_cons_of_mem _ (List.mem_cons_of_mem _ (List.mem_cons_of_mem _ (List.mem_cons_of_mem _ (List.mem_cons_of_mem _ (List.mem_cons_of_mem _ (List.mem_cons_of_mem _ (List.mem_cons_of_mem _ (List.mem_cons_of_mem _ (List.mem_cons_self ..)))))))))
            rcases List.mem_cons.1 hx with rfl | hx
            · exact List.mem_cons_of_mem _ (List.mem_cons_of_mem _ (List.mem_cons_of_mem _ (List.mem_cons_of_mem _ (List.mem_cons_of_mem _ (List.mem_cons_of_mem _ (List.mem_cons_of_mem _ (List.mem_cons_of_mem _ (List.mem_cons_of_mem _ (List.mem_cons_of_mem _ (List.mem_cons_self ..))))))))))
            rcases List.mem_cons.1 hx with rfl | hx
            · exact List.mem_cons_of_mem _ (List.mem_cons_of_mem _ (List.mem_cons_of_mem _ (List.mem_cons_of_mem _ (List.mem_cons_of_mem _ (List.mem_cons_of_mem _ (List.mem_cons_of_mem _ (List.mem_cons_of_mem _ (List.mem_cons_of_mem _ (List.mem_cons_of_mem _ (List.mem_cons_of_mem _ (List.mem_cons_self ..)))))))))))
            rcases List.mem_cons.1 hx with rfl | hx
            · exact List.mem_cons_of_mem _ (List.mem_cons_of_mem _ (List.mem_cons_of_mem _ (List.mem_cons_of_mem _ (List.mem_cons_of_mem _ (List.mem_cons_of_mem _ (List.mem_cons_of_mem _ (List.mem_cons_of_mem _ (List.mem_cons_of_mem _ (List.mem_cons_of_mem _ (List.mem_cons_of_mem _ (List.mem_cons_of_mem _ (List.mem_cons_self ..))))))))))))
            rcases List.mem_cons.1 hx with rfl | hx
            · exact List.mem_cons_of_mem _ (List.mem_cons_of_mem _ (List.mem_cons_of_mem _ (List.mem_cons_of_mem _ (List.mem_cons_of_mem _ (List.mem_cons_of_mem _ (List.mem_cons_of_mem _ (List.mem_cons_of_mem _ (List.mem_cons_of_mem _ (List.mem_cons_of_mem _ (List.mem_cons_of_mem _ (List.mem_cons_of_mem _ (List.mem_cons_of_mem _ (List.mem_cons_self ..)))))))))))))
            cases hx
          clear hk
          have hk := hk2
          clear hk2
          refine wp_seq_k fun K5 hK5 => ?_
          refine wp_region_lit ?_
          refine list_k rfl rfl hk (by decide) (by repeat' (first | exact far_nil _ | refine far_cons (by decide) ?_)) (v := .agg (uN (d)).toArray) (do_ldA u128Arr rfl (hk.at (List.mem_cons_self ..)) B15 rfl) ?_
          clear hk; intro a hk
          refine wp_call rfl (do_call1 rfl (hk.at (List.mem_cons_self ..)) (ent1_l128 _)) (vlen128_ok d _ hdl) ?_
          rintro e w15 ⟨m, rfl, hm1, hm2, hm3, hbc⟩
          replace BK := BK.kept hbc
          replace HO := OwnB.kept HO hbc
          replace B5 := B5.kept hbc
          replace B7 := B7.kept hbc
          replace B8 := B8.kept hbc
          replace B10 := B10.kept hbc
          replace B12 := B12.kept hbc
          replace B15 := B15.kept hbc
          have hb15 := hb14.trans (hbc.mono (Nat.le_trans hbase hb14.size))
          clear hbc
          refine ⟨_, rfl, ?_⟩
          refine keep_k (v := .int .i64 ((m : Nat) : Int)) hk (by decide) (by repeat' (first | exact far_nil _ | refine far_cons (by decide) ?_)) ?_
          clear hk; intro a hk
          refine list_k rfl rfl hk (by decide) (by repeat' (first | exact far_nil _ | refine far_cons (by decide) ?_)) (v := .int .i64 ((m : Nat) : Int)) (do_assign rfl (hk.at (List.mem_cons_self ..))) ?_
          clear hk; intro a hk
          refine hK5 _ _ ?_
          clear hK5
          have hk2 : Keeps 144 ([(16, .int .i64 ((m : Nat) : Int)), (15, .pointer (some ⟨q15, 0, none⟩)), (12, .pointer (some ⟨q12, 0, none⟩)), (11, .int .u32 ((tOf y : Nat) : Int)), (10, .pointer (some ⟨q10, 0, none⟩)), (9, .int .i64 ((j + 1 : Nat) : Int)), (8, .pointer (some ⟨q8, 0, none⟩)), (7, .pointer (some ⟨q7, 0, none⟩)), (6, .int .u32 ((tOf x : Nat) : Int)), (5, .pointer (some ⟨q5, 0, none⟩)), (1, .slice (some ⟨gk, 0, none⟩) n cap), (0, sv)]) a := by
            refine ⟨hk.1, hk.2.1, fun x hx => hk.2.2 x ?_⟩
            rcases List.mem_cons.1 hx with rfl | hx
            · exact List.mem_cons_self ..
            rcases List.mem_cons.1 hx with rfl | hx
            · exact List.mem_cons_of_mem _ (List.mem_cons_of_mem _ (List.mem_cons_of_mem _ (List.mem_cons_self ..)))
            rcases List.mem_cons.1 hx with rfl | hx
            · exact List.mem_cons_of_mem _ (List.mem_cons_of_mem _ (List.mem_cons_of_mem _ (List.mem_cons_of_mem _ (List.mem_cons_self ..))))
            rcases List.mem_cons.1 hx with rfl | hx
            · exact List.mem_cons_of_mem _ (List.mem_cons_of_mem _ (List.mem_cons_of_mem _ (List.mem_cons_of_mem _ (List.mem_cons_of_mem _ (List.mem_cons_self ..)))))
            rcases List.mem_cons.1 hx with rfl | hx
            · exact List.mem_cons_of_mem _ (List.mem_cons_of_mem _ (List.mem_cons_of_mem _ (List.mem_cons_of_mem _ (List.mem_cons_of_mem _ (List.mem_cons_of_mem _ (List.mem_cons_self ..))))))
            rcases List.mem_cons.1 hx with rfl | hx
            · exact List.mem_cons_of_mem _ (List.mem_cons_of_mem _ (List.mem_cons_of_mem _ (List.mem_cons_of_mem _ (List.mem_cons_of_mem _ (List.mem_cons_of_mem _ (List.mem_cons_of_mem _ (List.mem_cons_self ..)))))))
            rcases List.mem_cons.1 hx with rfl | hx
            · exact List.mem_cons_of_mem _ (List.mem_cons_of_mem _ (List.mem_cons_of_mem _ (List.mem_cons_of_mem _ (List.mem_cons_of_mem _ (List.mem_cons_of_mem _ (List.mem_cons_of_mem _ (List.mem_cons_of_mem _ (List.mem_cons_self ..))))))))
            rcases List.mem_cons.1 hx with rfl | hx
            · exact List.mem_cons_of_mem _ (List.mem_cons_of_mem _ (List.mem_cons_of_mem _ (List.mem_cons_of_mem _ (List.mem_cons_of_mem _ (List.mem_cons_of_mem _ (List.mem_cons_of_mem _ (List.mem_cons_of_mem _ (List.mem_cons_of_mem _ (List.mem_cons_self ..)))))))))
            rcases List.mem_cons.1 hx with rfl | hx
            · exact List.mem_cons_of_mem _ (List.mem_cons_of_mem _ (List.mem_cons_of_mem _ (List.mem_cons_of_mem _ (List.mem_cons_of_mem _ (List.mem_cons_of_mem _ (List.mem_cons_of_mem _ (List.mem_cons_of_mem _ (List.mem_cons_of_mem _ (List.mem_cons_of_mem _ (List.mem_cons_self ..))))))))))
            rcases List.mem_cons.1 hx with rfl | hx
            · exact List.mem_cons_of_mem _ (List.mem_cons_of_mem _ (List.mem_cons_of_mem _ (List.mem_cons_of_mem _ (List.mem_cons_of_mem _ (List.mem_cons_of_mem _ (List.mem_cons_of_mem _ (List.mem_cons_of_mem _ (List.mem_cons_of_mem _ (List.mem_cons_of_mem _ (List.mem_cons_of_mem _ (List.mem_cons_self ..)))))))))))
            rcases List.mem_cons.1 hx with rfl | hx
            · exact List.mem_cons_of_mem _ (List.mem_cons_of_mem _ (List.mem_cons_of_mem _ (List.mem_cons_of_mem _ (List.mem_cons_of_mem _ (List.mem_cons_of_mem _ (List.mem_cons_of_mem _ (List.mem_cons_of_mem _ (List.mem_cons_of_mem _ (List.mem_cons_of_mem _ (List.mem_cons_of_mem _ (List.mem_cons_of_mem _ (List.mem_cons_self ..))))))))))))
            rcases List.mem_cons.1 hx with rfl | hx
            · exact List.mem_cons_of_mem _ (List.mem_cons_of_mem _ (List.mem_cons_of_mem _ (List.mem_cons_of_mem _ (List.mem_cons_of_mem _ (List.mem_cons_of_mem _ (List.mem_cons_of_mem _ (List.mem_cons_of_mem _ (List.mem_cons_of_mem _ (List.mem_cons_of_mem _ (List.mem_cons_of_mem _ (List.mem_cons_of_mem _ (List.mem_cons_of_mem _ (List.mem_cons_self ..)))))))))))))
            cases hx
          clear hk
          have hk := hk2
          clear hk2
          refine wp_seq_k fun K5 hK5 => ?_
          refine wp_region_lit ?_
          refine list_k rfl rfl hk (by decide) (by repeat' (first | exact far_nil _ | refine far_cons (by decide) ?_)) (v := sv) (do_move rfl (hk.at (List.mem_cons_of_mem _ (List.mem_cons_of_mem _ (List.mem_cons_of_mem _ (List.mem_cons_of_mem _ (List.mem_cons_of_mem _ (List.mem_cons_of_mem _ (List.mem_cons_of_mem _ (List.mem_cons_of_mem _ (List.mem_cons_of_mem _ (List.mem_cons_of_mem _ (List.mem_cons_of_mem _ (List.mem_cons_self ..)))))))))))))) ?_
          clear hk; intro a hk
          refine list_k rfl rfl hk (by decide) (by repeat' (first | exact far_nil _ | refine far_cons (by decide) ?_)) (v := .int .i64 ((m : Nat) : Int)) (do_move rfl (hk.at (List.mem_cons_of_mem _ (List.mem_cons_self ..)))) ?_
          clear hk; intro a hk
          refine list_k rfl rfl hk (by decide) (by repeat' (first | exact far_nil _ | refine far_cons (by decide) ?_)) (v := .int .u8 ((m : Nat) : Int)) (do_cvtN rfl Try.underlying3 Try.underlying5 (hk.at (List.mem_cons_self ..)) (by rw [IntKind.wrap_u8]; omega)) ?_
          clear hk; intro a hk
          refine list_k rfl rfl hk (by decide) (by repeat' (first | exact far_nil _ | refine far_cons (by decide) ?_)) (v := .int .u8 ((128 + m : Nat) : Int)) (do_orB rfl Try.underlying5 (hk.at (List.mem_cons_self ..)) (or128n m (by omega))) ?_
          clear hk; intro a hk
          obtain ⟨qb, hqb⟩ : ∃ q, q = w15.heap.size := ⟨_, rfl⟩
          refine wp_byte1 rfl rfl Try.underlying22 BI.1 BI.2.1 BI.2.2 (m := 128 + m) (hk.at (List.mem_cons_self ..)) (by omega) hqb.symm ?_
          intro w16 BL gg ss
          replace BK := BK.grown gg (by simp)
          replace HO := OwnB.kept HO (below_grown gg)
          replace B5 := B5.grown gg (by simp)
          replace B7 := B7.grown gg (by simp)
          replace B8 := B8.grown gg (by simp)
          replace B10 := B10.grown gg (by simp)
          replace B12 := B12.grown gg (by simp)
          replace B15 := B15.grown gg (by simp)
          have hb16 := hb15.trans ((below_grown gg).mono (Nat.le_trans hbase hb15.size))
          clear gg ss hqb hb15
          refine keep_k (v := .slice (some ⟨qb, 0, none⟩) 1 1) hk (by decide) (by repeat' (first | exact far_nil _ | refine far_cons (by decide) ?_)) ?_
          clear hk; intro a hk
          refine wp_append_rd rfl rfl Try.underlying22 info5 rfl (hk.at (List.mem_cons_self ..)) (hk.at (List.mem_cons_of_mem _ (List.mem_cons_of_mem _ (List.mem_cons_of_mem _ (List.mem_cons_of_mem _ (List.mem_cons_self ..)))))) HO (BL.rd (by simp)) rfl (by simp; omega) (Nat.le_trans hbase hb16.size) ?_
          intro sv3 w17 HOn gg
          replace BK := BK.grown gg (own_ne HO BK (by decide))
          replace B5 := B5.grown gg (own_ne HO B5 (by decide))
          replace B7 := B7.grown gg (own_ne HO B7 (by decide))
          replace B8 := B8.grown gg (own_ne HO B8 (by decide))
          replace B10 := B10.grown gg (own_ne HO B10 (by decide))
          replace B12 := B12.grown gg (own_ne HO B12 (by decide))
          replace B15 := B15.grown gg (own_ne HO B15 (by decide))
          have hb17 := hb16.grown gg (Nat.le_trans hbase hb16.size) (fun j hj => (HO.lt j hj).1)
          clear gg HO hb16 BL
          have HO := HOn
          clear HOn
          refine keep_k (v := sv3) hk (by decide) (by repeat' (first | exact far_nil _ | refine far_cons (by decide) ?_)) ?_
          clear hk; intro a hk
          have hk2 : Keeps 144 ([(101, sv3), (100, .slice (some ⟨qb, 0, none⟩) 1 1), (99, .int .u8 ((128 + m : Nat) : Int)), (98, .int .u8 ((m : Nat) : Int)), (97, .int .i64 ((m : Nat) : Int)), (96, sv), (16, .int .i64 ((m : Nat) : Int)), (15, .pointer (some ⟨q15, 0, none⟩)), (12, .pointer (some ⟨q12, 0, none⟩)), (11, .int .u32 ((tOf y : Nat) : Int)), (10, .pointer (some ⟨q10, 0, none⟩)), (9, .int .i64 ((j + 1 : Nat) : Int)), (8, .pointer (some ⟨q8, 0, none⟩)), (7, .pointer (some ⟨q7, 0, none⟩)), (6, .int .u32 ((tOf x : Nat) : Int)), (5, .pointer (some ⟨q5, 0, none⟩)), (1, .slice (some ⟨gk, 0, none⟩) n cap)]) a := by
            refine ⟨hk.1, hk.2.1, fun x hx => hk.2.2 x ?_⟩
            rcases List.mem_cons.1 hx with rfl | hx
            · exact List.mem_cons_self ..
            rcases List.mem_cons.1 hx with rfl | hx
            · exact List.mem_cons_of_mem _ (List.mem_cons_self ..)
            rcases List.mem_cons.1 hx with rfl | hx
            · exact List.mem_cons_of_mem _ (List.mem_cons_of_mem _ (List.mem_cons_self ..))
            rcases List.mem_cons.1 hx with rfl | hx
            · exact List.mem_cons_of_mem _ (List.mem_cons_of_mem _ (List.mem_cons_of_mem _ (List.mem_cons_self ..)))
            rcases List.mem_cons.1 hx with rfl | hx
            · exact List.mem_cons_of_mem _ (List.mem_cons_of_mem _ (List.mem_cons_of_mem _ (List.mem_cons_of_mem _ (List.mem_cons_self ..))))
            rcases List.mem_cons.1 hx with rfl | hx
            · exact List.mem_cons_of_mem _ (List.mem_cons_of_mem _ (List.mem_cons_of_mem _ (List.mem_cons_of_mem _ (List.mem_cons_of_mem _ (List.mem_cons_self ..)))))
            rcases List.mem_cons.1 hx with rfl | hx
            · exact List.mem_cons_of_mem _ (List.mem_cons_of_mem _ (List.mem_cons_of_mem _ (List.mem_cons_of_mem _ (List.mem_cons_of_mem _ (List.mem_cons_of_mem _ (List.mem_cons_self ..))))))
            rcases List.mem_cons.1 hx with rfl | hx
            · exact List.mem_cons_of_mem _ (List.mem_cons_of_mem _ (List.mem_cons_of_mem _ (List.mem_cons_of_mem _ (List.mem_cons_of_mem _ (List.mem_cons_of_mem _ (List.mem_cons_of_mem _ (List.mem_cons_self ..)))))))
            rcases List.mem_cons.1 hx with rfl | hx
            · exact List.mem_cons_of_mem _ (List.mem_cons_of_mem _ (List.mem_cons_of_mem _ (List.mem_cons_of_mem _ (List.mem_cons_of_mem _ (List.mem_cons_of_mem _ (List.mem_cons_of_mem _ (List.mem_cons_of_mem _ (List.mem_cons_self ..))))))))
            rcases List.mem_cons.1 hx with rfl | hx
            · exact List.mem_cons_of_mem _ (List.mem_cons_of_mem _ (List.mem_cons_of_mem _ (List.mem_cons_of_mem _ (List.mem_cons_of_mem _ (List.mem_cons_of_mem _ (List.mem_cons_of_mem _ (List.mem_cons_of_mem _ (List.mem_cons_of_mem _ (List.mem_cons_self ..)))))))))
            rcases List.mem_cons.1 hx with rfl | hx
            · exact List.mem_cons_of_mem _ (List.mem_cons_of_mem _ (List.mem_cons_of_mem _ (List.mem_cons_of_mem _ (List.mem_cons_of_mem _ (List.mem_cons_of_mem _ (List.mem_cons_of_mem _ (List.mem_cons_of_mem _ (List.mem_cons_of_mem _ (List.mem_cons_of_mem _ (List.mem_cons_self ..))))))))))
            rcases List.mem_cons.1 hx with rfl | hx
            · exact List.mem_cons_of_mem _ (List.mem_cons_of_mem _ (List.mem_cons_of_mem _ (List.mem_cons_of_mem _ (List.mem_cons_of_mem _ (List.mem_cons_of_mem _ (List.mem_cons_of_mem _ (List.mem_cons_of_mem _ (List.mem_cons_of_mem _ (List.mem_cons_of_mem _ (List.mem_cons_of_mem _ (List.mem_cons_self ..)))))))))))
            rcases List.mem_cons.1 hx with rfl | hx
            · exact List.mem_cons_of_mem _ (List.mem_cons_of_mem _ (List.mem_cons_of_mem _ (List.mem_cons_of_mem _ (List.mem_cons_of_mem _ (List.mem_cons_of_mem _ (List.mem_cons_of_mem _ (List.mem_cons_of_mem _ (List.mem_cons_of_mem _ (List.mem_cons_of_mem _ (List.mem_cons_of_mem _ (List.mem_cons_of_mem _ (List.mem_cons_self ..))))))))))))
            rcases List.mem_cons.1 hx with rfl | hx
            · exact List.mem_cons_of_mem _ (List.mem_cons_of_mem _ (List.mem_cons_of_mem _ (List.mem_cons_of_mem _ (List.mem_cons_of_mem _ (List.mem_cons_of_mem _ (List.mem_cons_of_mem _ (List.mem_cons_of_mem _ (List.mem_cons_of_mem _ (List.mem_cons_of_mem _ (List.mem_cons_of_mem _ (List.mem_cons_of_mem _ (List.mem_cons_of_mem _ (List.mem_cons_self ..)))))))))))))
            rcases List.mem_cons.1 hx with rfl | hx
            · exact List.mem_cons_of_mem _ (List.mem_cons_of_mem _ (List.mem_cons_of_mem _ (List.mem_cons_of_mem _ (List.mem_cons_of_mem _ (List.mem_cons_of_mem _ (List.mem_cons_of_mem _ (List.mem_cons_of_mem _ (List.mem_cons_of_mem _ (List.mem_cons_of_mem _ (List.mem_cons_of_mem _ (List.mem_cons_of_mem _ (List.mem_cons_of_mem _ (List.mem_cons_of_mem _ (List.mem_cons_self ..))))))))))))))
            rcases List.mem_cons.1 hx with rfl | hx
            · exact List.mem_cons_of_mem _ (List.mem_cons_of_mem _ (List.mem_cons_of_mem _ (List.mem_cons_of_mem _ (List.mem_cons_of_mem _ (List.mem_cons_of_mem _ (List.mem_cons_of_mem _ (List.mem_cons_of_mem _ (List.mem_cons_of_mem _ (List.mem_cons_of_mem _ (List.mem_cons_of_mem _ (List.mem_cons_of_mem _ (List.mem_cons_of_mem _ (List.mem_cons_of_mem _ (List.mem_cons_of_mem _ (List.mem_cons_self ..)))))))))))))))
            rcases List.mem_cons.1 hx with rfl | hx
            · exact List.mem_cons_of_mem _ (List.mem_cons_of_mem _ (List.mem_cons_of_mem _ (List.mem_cons_of_mem _ (List.mem_cons_of_mem _ (List.mem_cons_of_mem _ (List.mem_cons_of_mem _ (List.mem_cons_of_mem _ (List.mem_cons_of_mem _ (List.mem_cons_of_mem _ (List.mem_cons_of_mem _ (List.mem_cons_of_mem _ (List.mem_cons_of_mem _ (List.mem_cons_of_mem _ (List.mem_cons_of_mem _ (List.mem_cons_of_mem _ (List.mem_cons_self ..))))))))))))))))
            cases hx
          clear hk
          have hk := hk2
          clear hk2
          refine list_k rfl rfl hk (by decide) (by repeat' (first | exact far_nil _ | refine far_cons (by decide) ?_)) (v := sv3) (do_assign rfl (hk.at (List.mem_cons_self ..))) ?_
          clear hk; intro a hk
          refine hK5 _ _ ?_
          clear hK5
          have hk2 : Keeps 144 ([(0, sv3), (16, .int .i64 ((m : Nat) : Int)), (15, .pointer (some ⟨q15, 0, none⟩)), (12, .pointer (some ⟨q12, 0, none⟩)), (11, .int .u32 ((tOf y : Nat) : Int)), (10, .pointer (some ⟨q10, 0, none⟩)), (9, .int .i64 ((j + 1 : Nat) : Int)), (8, .pointer (some ⟨q8, 0, none⟩)), (7, .pointer (some ⟨q7, 0, none⟩)), (6, .int .u32 ((tOf x : Nat) : Int)), (5, .pointer (some ⟨q5, 0, none⟩)), (1, .slice (some ⟨gk, 0, none⟩) n cap)]) a := by
            refine ⟨hk.1, hk.2.1, fun x hx => hk.2.2 x ?_⟩
            rcases List.mem_cons.1 hx with rfl | hx
            · exact List.mem_cons_self ..
            rcases List.mem_cons.1 hx with rfl | hx
            · exact List.mem_cons_of_mem _ (List.mem_cons_of_mem _ (List.mem_cons_of_mem _ (List.mem_cons_of_mem _ (List.mem_cons_of_mem _ (List.mem_cons_of_mem _ (List.mem_cons_of_mem _ (List.mem_cons_self ..)))))))
            rcases List.mem_cons.1 hx with rfl | hx
            · exact List.mem_cons_of_mem _ (List.mem_cons_of_mem _ (List.mem_cons_of_mem _ (List.mem_cons_of_mem _ (List.mem_cons_of_mem _ (List.mem_cons_of_mem _ (List.mem_cons_of_mem _ (List.mem_cons_of_mem _ (List.mem_cons_self ..))))))))
            rcases List.mem_cons.1 hx with rfl | hx
            · exact List.mem_cons_of_mem _ (List.mem_cons_of_mem _ (List.mem_cons_of_mem _ (List.mem_cons_of_mem _ (List.mem_cons_of_mem _ (List.mem_cons_of_mem _ (List.mem_cons_of_mem _ (List.mem_cons_of_mem _ (List.mem_cons_of_mem _ (List.mem_cons_self ..)))))))))
            rcases List.mem_cons.1 hx with rfl | hx
            · exact List.mem_cons_of_mem _ (List.mem_cons_of_mem _ (List.mem_cons_of_mem _ (List.mem_cons_of_mem _ (List.mem_cons_of_mem _ (List.mem_cons_of_mem _ (List.mem_cons_of_mem _ (List.mem_cons_of_mem _ (List.mem_cons_of_mem _ (List.mem_cons_of_mem _ (List.mem_cons_self ..))))))))))
            rcases List.mem_cons.1 hx with rfl | hx
            · exact List.mem_cons_of_mem _ (List.mem_cons_of_mem _ (List.mem_cons_of_mem _ (List.mem_cons_of_mem _ (List.mem_cons_of_mem _ (List.mem_cons_of_mem _ (List.mem_cons_of_mem _ (List.mem_cons_of_mem _ (List.mem_cons_of_mem _ (List.mem_cons_of_mem _ (List.mem_cons_of_mem _ (List.mem_cons_self ..)))))))))))
            rcases List.mem_cons.1 hx with rfl | hx
            · exact List.mem_cons_of_mem _ (List.mem_cons_of_mem _ (List.mem_cons_of_mem _ (List.mem_cons_of_mem _ (List.mem_cons_of_mem _ (List.mem_cons_of_mem _ (List.mem_cons_of_mem _ (List.mem_cons_of_mem _ (List.mem_cons_of_mem _ (List.mem_cons_of_mem _ (List.mem_cons_of_mem _ (List.mem_cons_of_mem _ (List.mem_cons_self ..))))))))))))
            rcases List.mem_cons.1 hx with rfl | hx
            · exact List.mem_cons_of_mem _ (List.mem_cons_of_mem _ (List.mem_cons_of_mem _ (List.mem_cons_of_mem _ (List.mem_cons_of_mem _ (List.mem_cons_of_mem _ (List.mem_cons_of_mem _ (List.mem_cons_of_mem _ (List.mem_cons_of_mem _ (List.mem_cons_of_mem _ (List.mem_cons_of_mem _ (List.mem_cons_of_mem _ (List.mem_cons_of_mem _ (List.mem_cons_self ..)))))))))))))
            rcases List.mem_cons.1 hx with rfl | hx
            · exact List.mem_cons_of_mem _ (List.mem_cons_of_mem _ (List.mem_cons_of_mem _ (List.mem_cons_of_mem _ (List.mem_cons_of_mem _ (List.mem_cons_of_mem _ (List.mem_cons_of_mem _ (List.mem_cons_of_mem _ (List.mem_cons_of_mem _ (List.mem_cons_of_mem _ (List.mem_cons_of_mem _ (List.mem_cons_of_mem _ (List.mem_cons_of_mem _ (List.mem_cons_of_mem _ (List.mem_cons_self ..))))))))))))))
            rcases List.mem_cons.1 hx with rfl | hx
            · exact List.mem_cons_of_mem _ (List.mem_cons_of_mem _ (List.mem_cons_of_mem _ (List.mem_cons_of_mem _ (List.mem_cons_of_mem _ (List.mem_cons_of_mem _ (List.mem_cons_of_mem _ (List.mem_cons_of_mem _ (List.mem_cons_of_mem _ (List.mem_cons_of_mem _ (List.mem_cons_of_mem _ (List.mem_cons_of_mem _ (List.mem_cons_of_mem _ (List.mem_cons_of_mem _ (List.mem_cons_of_mem _ (List.mem_cons_self ..)))))))))))))))
            rcases List.mem_cons.1 hx with rfl | hx
            · exact List.mem_cons_of_mem _ (List.mem_cons_of_mem _ (List.mem_cons_of_mem _ (List.mem_cons_of_mem _ (List.mem_cons_of_mem _ (List.mem_cons_of_mem _ (List.mem_cons_of_mem _ (List.mem_cons_of_mem _ (List.mem_cons_of_mem _ (List.mem_cons_of_mem _ (List.mem_cons_of_mem _ (List.mem_cons_of_mem _ (List.mem_cons_of_mem _ (List.mem_cons_of_mem _ (List.mem_cons_of_mem _ (List.mem_cons_of_mem _ (List.mem_cons_self ..))))))))))))))))
            rcases List.mem_cons.1 hx with rfl | hx
            · exact List.mem_cons_of_mem _ (List.mem_cons_of_mem _ (List.mem_cons_of_mem _ (List.mem_cons_of_mem _ (List.mem_cons_of_mem _ (List.mem_cons_of_mem _ (List.mem_cons_of_mem _ (List.mem_cons_of_mem _ (List.mem_cons_of_mem _ (List.mem_cons_of_mem _ (List.mem_cons_of_mem _ (List.mem_cons_of_mem _ (List.mem_cons_of_mem _ (List.mem_cons_of_mem _ (List.mem_cons_of_mem _ (List.mem_cons_of_mem _ (List.mem_cons_of_mem _ (List.mem_cons_self ..)))))))))))))))))
            cases hx
          clear hk
          have hk := hk2
          clear hk2
          refine wp_region_lit ?_
          refine list_k rfl rfl hk (by decide) (by repeat' (first | exact far_nil _ | refine far_cons (by decide) ?_)) (v := sv3) (do_move rfl (hk.at (List.mem_cons_self ..))) ?_
          clear hk; intro a hk
          refine list_k rfl rfl hk (by decide) (by repeat' (first | exact far_nil _ | refine far_cons (by decide) ?_)) (v := .agg (uN (d)).toArray) (do_ldA u128Arr rfl (hk.at (List.mem_cons_of_mem _ (List.mem_cons_of_mem _ (List.mem_cons_of_mem _ (List.mem_cons_self ..))))) B15 rfl) ?_
          clear hk; intro a hk
          refine list_k rfl rfl hk (by decide) (by repeat' (first | exact far_nil _ | refine far_cons (by decide) ?_)) (v := .int .i64 ((m : Nat) : Int)) (do_move rfl (hk.at (List.mem_cons_of_mem _ (List.mem_cons_of_mem _ (List.mem_cons_of_mem _ (List.mem_cons_self ..)))))) ?_
          clear hk; intro a hk
          refine wp_call rfl (do_call3 rfl (hk.at (List.mem_cons_of_mem _ (List.mem_cons_of_mem _ (List.mem_cons_self ..)))) (hk.at (List.mem_cons_of_mem _ (List.mem_cons_self ..))) (hk.at (List.mem_cons_self ..)) (ent3_a128 _ _ _)) (appv128_ok base _ _ d m _ HO (Nat.le_trans hbase hb17.size) hdl hm1 hm2 (by simp; omega)) ?_
          rintro e w18 ⟨sv4, rfl, HOn, gg⟩
          replace BK := BK.grown gg (own_ne HO BK (by decide))
          replace B5 := B5.grown gg (own_ne HO B5 (by decide))
          replace B7 := B7.grown gg (own_ne HO B7 (by decide))
          replace B8 := B8.grown gg (own_ne HO B8 (by decide))
          replace B10 := B10.grown gg (own_ne HO B10 (by decide))
          replace B12 := B12.grown gg (own_ne HO B12 (by decide))
          replace B15 := B15.grown gg (own_ne HO B15 (by decide))
          have hb18 := hb17.grown gg (Nat.le_trans hbase hb17.size) (fun j hj => (HO.lt j hj).1)
          clear gg HO hb17 
          have HO := HOn
          clear HOn
          refine ⟨_, rfl, ?_⟩
          refine keep_k (v := sv4) hk (by decide) (by repeat' (first | exact far_nil _ | refine far_cons (by decide) ?_)) ?_
          clear hk; intro a hk
          have hk2 : Keeps 144 ([(105, sv4), (104, .int .i64 ((m : Nat) : Int)), (103, .agg (uN (d)).toArray), (102, sv3), (16, .int .i64 ((m : Nat) : Int)), (15, .pointer (some ⟨q15, 0, none⟩)), (12, .pointer (some ⟨q12, 0, none⟩)), (11, .int .u32 ((tOf y : Nat) : Int)), (10, .pointer (some ⟨q10, 0, none⟩)), (9, .int .i64 ((j + 1 : Nat) : Int)), (8, .pointer (some ⟨q8, 0, none⟩)), (7, .pointer (some ⟨q7, 0, none⟩)), (6, .int .u32 ((tOf x : Nat) : Int)), (5, .pointer (some ⟨q5, 0, none⟩)), (1, .slice (some ⟨gk, 0, none⟩) n cap)]) a := by
            refine ⟨hk.1, hk.2.1, fun x hx => hk.2.2 x ?_⟩
            rcases List.mem_cons.1 hx with rfl | hx
            · exact List.mem_cons_self ..
            rcases List.mem_cons.1 hx with rfl | hx
            · exact List.mem_cons_of_mem _ (List.mem_cons_self ..)
            rcases List.mem_cons.1 hx with rfl | hx
            · exact List.mem_cons_of_mem _ (List.mem_cons_of_mem _ (List.mem_cons_self ..))
            rcases List.mem_cons.1 hx with rfl | hx
            · exact List.mem_cons_of_mem _ (List.mem_cons_of_mem _ (List.mem_cons_of_mem _ (List.mem_cons_self ..)))
            rcases List.mem_cons.1 hx with rfl | hx
            · exact List.mem_cons_of_mem _ (List.mem_cons_of_mem _ (List.mem_cons_of_mem _ (List.mem_cons_of_mem _ (List.mem_cons_of_mem _ (List.mem_cons_self ..)))))
            rcases List.mem_cons.1 hx with rfl | hx
            · exact List.mem_cons_of_mem _ (List.mem_cons_of_mem _ (List.mem_cons_of_mem _ (List.mem_cons_of_mem _ (List.mem_cons_of_mem _ (List.mem_cons_of_mem _ (List.mem_cons_self ..))))))
            rcases List.mem_cons.1 hx with rfl | hx
            · exact List.mem_cons_of_mem _ (List.mem_cons_of_mem _ (List.mem_cons_of_mem _ (List.mem_cons_of_mem _ (List.mem_cons_of_mem _ (List.mem_cons_of_mem _ (List.mem_cons_of_mem _ (List.mem_cons_self ..)))))))
            rcases List.mem_cons.1 hx with rfl | hx
            · exact List.mem_cons_of_mem _ (List.mem_cons_of_mem _ (List.mem_cons_of_mem _ (List.mem_cons_of_mem _ (List.mem_cons_of_mem _ (List.mem_cons_of_mem _ (List.mem_cons_of_mem _ (List.mem_cons_of_mem _ (List.mem_cons_self ..))))))))
            rcases List.mem_cons.1 hx with rfl | hx
            · exact List.mem_cons_of_mem _ (List.mem_cons_of_mem _ (List.mem_cons_of_mem _ (List.mem_cons_of_mem _ (List.mem_cons_of_mem _ (List.mem_cons_of_mem _ (List.mem_cons_of_mem _ (List.mem_cons_of_mem _ (List.mem_cons_of_mem _ (List.mem_cons_self ..)))))))))
            rcases List.mem_cons.1 hx with rfl | hx
            · exact List.mem_cons_of_mem _ (List.mem_cons_of_mem _ (List.mem_cons_of_mem _ (List.mem_cons_of_mem _ (List.mem_cons_of_mem _ (List.mem_cons_of_mem _ (List.mem_cons_of_mem _ (List.mem_cons_of_mem _ (List.mem_cons_of_mem _ (List.mem_cons_of_mem _ (List.mem_cons_self ..))))))))))
            rcases List.mem_cons.1 hx with rfl | hx
            · exact List.mem_cons_of_mem _ (List.mem_cons_of_mem _ (List.mem_cons_of_mem _ (List.mem_cons_of_mem _ (List.mem_cons_of_mem _ (List.mem_cons_of_mem _ (List.mem_cons_of_mem _ (List.mem_cons_of_mem _ (List.mem_cons_of_mem _ (List.mem_cons_of_mem _ (List.mem_cons_of_mem _ (List.mem_cons_self ..)))))))))))
            rcases List.mem_cons.1 hx with rfl | hx
            · exact List.mem_cons_of_mem _ (List.mem_cons_of_mem _ (List.mem_cons_of_mem _ (List.mem_cons_of_mem _ (List.mem_cons_of_mem _ (List.mem_cons_of_mem _ (List.mem_cons_of_mem _ (List.mem_cons_of_mem _ (List.mem_cons_of_mem _ (List.mem_cons_of_mem _ (List.mem_cons_of_mem _ (List.mem_cons_of_mem _ (List.mem_cons_self ..))))))))))))
            rcases List.mem_cons.1 hx with rfl | hx
            · exact List.mem_cons_of_mem _ (List.mem_cons_of_mem _ (List.mem_cons_of_mem _ (List.mem_cons_of_mem _ (List.mem_cons_of_mem _ (List.mem_cons_of_mem _ (List.mem_cons_of_mem _ (List.mem_cons_of_mem _ (List.mem_cons_of_mem _ (List.mem_cons_of_mem _ (List.mem_cons_of_mem _ (List.mem_cons_of_mem _ (List.mem_cons_of_mem _ (List.mem_cons_self ..)))))))))))))
            rcases List.mem_cons.1 hx with rfl | hx
            · exact List.mem_cons_of_mem _ (List.mem_cons_of_mem _ (List.mem_cons_of_mem _ (List.mem_cons_of_mem _ (List.mem_cons_of_mem _ (List.mem_cons_of_mem _ (List.mem_cons_of_mem _ (List.mem_cons_of_mem _ (List.mem_cons_of_mem _ (List.mem_cons_of_mem _ (List.mem_cons_of_mem _ (List.mem_cons_of_mem _ (List.mem_cons_of_mem _ (List.mem_cons_of_mem _ (List.mem_cons_self ..))))))))))))))
            rcases List.mem_cons.1 hx with rfl | hx
            · exact List.mem_cons_of_mem _ (List.mem_cons_of_mem _ (List.mem_cons_of_mem _ (List.mem_cons_of_mem _ (List.mem_cons_of_mem _ (List.mem_cons_of_mem _ (List.mem_cons_of_mem _ (List.mem_cons_of_mem _ (List.mem_cons_of_mem _ (List.mem_cons_of_mem _ (List.mem_cons_of_mem _ (List.mem_cons_of_mem _ (List.mem_cons_of_mem _ (List.mem_cons_of_mem _ (List.mem_cons_of_mem _ (List.mem_cons_self ..)))))))))))))))
            cases hx
          clear hk
          have hk := hk2
          clear hk2
          refine list_k rfl rfl hk (by decide) (by repeat' (first | exact far_nil _ | refine far_cons (by decide) ?_)) (v := sv4) (do_assign rfl (hk.at (List.mem_cons_self ..))) ?_
          clear hk; intro a hk
          have hk2 : Keeps 144 ([(0, sv4), (12, .pointer (some ⟨q12, 0, none⟩)), (11, .int .u32 ((tOf y : Nat) : Int)), (10, .pointer (some ⟨q10, 0, none⟩)), (9, .int .i64 ((j + 1 : Nat) : Int)), (8, .pointer (some ⟨q8, 0, none⟩)), (7, .pointer (some ⟨q7, 0, none⟩)), (6, .int .u32 ((tOf x : Nat) : Int)), (5, .pointer (some ⟨q5, 0, none⟩)), (1, .slice (some ⟨gk, 0, none⟩) n cap)]) a := by
            refine ⟨hk.1, hk.2.1, fun x hx => hk.2.2 x ?_⟩
            rcases List.mem_cons.1 hx with rfl | hx
            · exact List.mem_cons_self ..
            rcases List.mem_cons.1 hx with rfl | hx
            · exact List.mem_cons_of_mem _ (List.mem_cons_of_mem _ (List.mem_cons_of_mem _ (List.mem_cons_of_mem _ (List.mem_cons_of_mem _ (List.mem_cons_of_mem _ (List.mem_cons_of_mem _ (List.mem_cons_self ..)))))))
            rcases List.mem_cons.1 hx with rfl | hx
            · exact List.mem_cons_of_mem _ (List.mem_cons_of_mem _ (List.mem_cons_of_mem _ (List.mem_cons_of_mem _ (List.mem_cons_of_mem _ (List.mem_cons_of_mem _ (List.mem_cons_of_mem _ (List.mem_cons_of_mem _ (List.mem_cons_self ..))))))))
            rcases List.mem_cons.1 hx with rfl | hx
            · exact List.mem_cons_of_mem _ (List.mem_cons_of_mem _ (List.mem_cons_of_mem _ (List.mem_cons_of_mem _ (List.mem_cons_of_mem _ (List.mem_cons_of_mem _ (List.mem_cons_of_mem _ (List.mem_cons_of_mem _ (List.mem_cons_of_mem _ (List.mem_cons_self ..)))))))))
            rcases List.mem_cons.1 hx with rfl | hx
            · exact List.mem_cons_of_mem _ (List.mem_cons_of_mem _ (List.mem_cons_of_mem _ (List.mem_cons_of_mem _ (List.mem_cons_of_mem _ (List.mem_cons_of_mem _ (List.mem_cons_of_mem _ (List.mem_cons_of_mem _ (List.mem_cons_of_mem _ (List.mem_cons_of_mem _ (List.mem_cons_self ..))))))))))
            rcases List.mem_cons.1 hx with rfl | hx
            · exact List.mem_cons_of_mem _ (List.mem_cons_of_mem _ (List.mem_cons_of_mem _ (List.mem_cons_of_mem _ (List.mem_cons_of_mem _ (List.mem_cons_of_mem _ (List.mem_cons_of_mem _ (List.mem_cons_of_mem _ (List.mem_cons_of_mem _ (List.mem_cons_of_mem _ (List.mem_cons_of_mem _ (List.mem_cons_self ..)))))))))))
            rcases List.mem_cons.1 hx with rfl | hx
            · exact List.mem_cons_of_mem _ (List.mem_cons_of_mem _ (List.mem_cons_of_mem _ (List.mem_cons_of_mem _ (List.mem_cons_of_mem _ (List.mem_cons_of_mem _ (List.mem_cons_of_mem _ (List.mem_cons_of_mem _ (List.mem_cons_of_mem _ (List.mem_cons_of_mem _ (List.mem_cons_of_mem _ (List.mem_cons_of_mem _ (List.mem_cons_self ..))))))))))))
            rcases List.mem_cons.1 hx with rfl | hx
            · exact List.mem_cons_of_mem _ (List.mem_cons_of_mem _ (List.mem_cons_of_mem _ (List.mem_cons_of_mem _ (List.mem_cons_of_mem _ (List.mem_cons_of_mem _ (List.mem_cons_of_mem _ (List.mem_cons_of_mem _ (List.mem_cons_of_mem _ (List.mem_cons_of_mem _ (List.mem_cons_of_mem _ (List.mem_cons_of_mem _ (List.mem_cons_of_mem _ (List.mem_cons_self ..)))))))))))))
            rcases List.mem_cons.1 hx with rfl | hx
            · exact List.mem_cons_of_mem _ (List.mem_cons_of_mem _ (List.mem_cons_of_mem _ (List.mem_cons_of_mem _ (List.mem_cons_of_mem _ (List.mem_cons_of_mem _ (List.mem_cons_of_mem _ (List.mem_cons_of_mem _ (List.mem_cons_of_mem _ (List.mem_cons_of_mem _ (List.mem_cons_of_mem _ (List.mem_cons_of_mem _ (List.mem_cons_of_mem _ (List.mem_cons_of_mem _ (List.mem_cons_self ..))))))))))))))
            rcases List.mem_cons.1 hx with rfl | hx
            · exact List.mem_cons_of_mem _ (List.mem_cons_of_mem _ (List.mem_cons_of_mem _ (List.mem_cons_of_mem _ (List.mem_cons_of_mem _ (List.mem_cons_of_mem _ (List.mem_cons_of_mem _ (List.mem_cons_of_mem _ (List.mem_cons_of_mem _ (List.mem_cons_of_mem _ (List.mem_cons_of_mem _ (List.mem_cons_of_mem _ (List.mem_cons_of_mem _ (List.mem_cons_of_mem _ (List.mem_cons_of_mem _ (List.mem_cons_self ..)))))))))))))))
            cases hx
          clear hk
          have hk := hk2
          clear hk2
          rw [← htt] at hk
          subst hye
          have hyl : (xs ++ [UInt8.ofNat (128 + m)] ++ be m d).length ≤ 40 * (j + 1 + 1) := by
            simp [be_length]
            omega
          exact HEND _ _ (j + 1) _ _ (Nat.le_refl _) (by omega) (hk.sub (fun x hx => by simp at hx ⊢; rcases hx with rfl | rfl | rfl | rfl | rfl | rfl | rfl | rfl | rfl <;> simp)) B12 B10 B5 B7 B8 BK HO hyl hb18 (enc_app (a := UInt8.ofNat (128 + m) :: be m d) HE (fun b hb => by rw [List.cons_append]; exact enc_delta hj2 rfl hy hm1 hm2 hm3 htt hdd hb) (by rw [List.append_assoc]; rfl))
        case pos =>
          refine hK5 _ _ (wp_cond_false ((hk.at (List.mem_cons_self ..)).trans (congrArg (fun b => Value.bool (!b)) (decide_eq_true hd1))) ?_)
          clear hK5
          subst hd1
          have hk2 : Keeps 144 ([(15, .pointer (some ⟨q15, 0, none⟩)), (12, .pointer (some ⟨q12, 0, none⟩)), (11, .int .u32 ((tOf y : Nat) : Int)), (10, .pointer (some ⟨q10, 0, none⟩)), (9, .int .i64 ((j + 1 : Nat) : Int)), (8, .pointer (some ⟨q8, 0, none⟩)), (7, .pointer (some ⟨q7, 0, none⟩)), (6, .int .u32 ((tOf x : Nat) : Int)), (5, .pointer (some ⟨q5, 0, none⟩)), (1, .slice (some ⟨gk, 0, none⟩) n cap), (0, sv)]) a := by
            refine ⟨hk.1, hk.2.1, fun x hx => hk.2.2 x ?_⟩
            rcases List.mem_cons.1 hx with rfl | hx
            · exact List.mem_cons_of_mem _ (List.mem_cons_of_mem _ (List.mem_cons_of_mem _ (List.mem_cons_self ..)))
            rcases List.mem_cons.1 hx with rfl | hx
            · exact List.mem_cons_of_mem _ (List.mem_cons_of_mem _ (List.mem_cons_of_mem _ (List.mem_cons_of_mem _ (List.mem_cons_self ..))))
            rcases List.mem_cons.1 hx with rfl | hx
            · exact List.mem_cons_of_mem _ (List.mem_cons_of_mem _ (List.mem_cons_of_mem _ (List.mem_cons_of_mem _ (List.mem_cons_of_mem _ (List.mem_cons_self ..)))))
            rcases List.mem_cons.1 hx with rfl | hx
            · exact List.mem_cons_of_mem _ (List.mem_cons_of_mem _ (List.mem_cons_of_mem _ (List.mem_cons_of_mem _ (List.mem_cons_of_mem _ (List.mem_cons_of_mem _ (List.mem_cons_self ..))))))
            rcases List.mem_cons.1 hx with rfl | hx
            · exact List.mem_cons_of_mem _ (List.mem_cons_of_mem _ (List.mem_cons_of_mem _ (List.mem_cons_of_mem _ (List.mem_cons_of_mem _ (List.mem_cons_of_mem _ (List.mem_cons_of_mem _ (List.mem_cons_self ..)))))))
            rcases List.mem_cons.1 hx with rfl | hx
            · exact List.mem_cons_of_mem _ (List.mem_cons_of_mem _ (List.mem_cons_of_mem _ (List.mem_cons_of_mem _ (List.mem_cons_of_mem _ (List.mem_cons_of_mem _ (List.mem_cons_of_mem _ (List.mem_cons_of_mem _ (List.mem_cons_self ..))))))))
            rcases List.mem_cons.1 hx with rfl | hx
            · exact List.mem_cons_of_mem _ (List.mem_cons_of_mem _ (List.mem_cons_of_mem _ (List.mem_cons_of_mem _ (List.mem_cons_of_mem _ (List.mem_cons_of_mem _ (List.mem_cons_of_mem _ (List.mem_cons_of_mem _ (List.mem_cons_of_mem _ (List.mem_cons_self ..)))))))))
            rcases List.mem_cons.1 hx with rfl | hx
            · exact List.mem_cons_of_mem _ (List.mem_cons_of_mem _ (List.mem_cons_of_mem _ (List.mem_cons_of_mem _ (List.mem_cons_of_mem _ (List.mem_cons_of_mem _ (List.mem_cons_of_mem _ (List.mem_cons_of_mem _ (List.mem_cons_of_mem _ (List.mem_cons_of_mem _ (List.mem_cons_self ..))))))))))
            rcases List.mem_cons.1 hx with rfl | hx
            · exact List.mem_cons_of_mem _ (List.mem_cons_of_mem _ (List.mem_cons_of_mem _ (List.mem_cons_of_mem _ (List.mem_cons_of_mem _ (List.mem_cons_of_mem _ (List.mem_cons_of_mem _ (List.mem_cons_of_mem _ (List.mem_cons_of_mem _ (List.mem_cons_of_mem _ (List.mem_cons_of_mem _ (List.mem_cons_self ..)))))))))))
            rcases List.mem_cons.1 hx with rfl | hx
            · exact List.mem_cons_of_mem _ (List.mem_cons_of_mem _ (List.mem_cons_of_mem _ (List.mem_cons_of_mem _ (List.mem_cons_of_mem _ (List.mem_cons_of_mem _ (List.mem_cons_of_mem _ (List.mem_cons_of_mem _ (List.mem_cons_of_mem _ (List.mem_cons_of_mem _ (List.mem_cons_of_mem _ (List.mem_cons_of_mem _ (List.mem_cons_self ..))))))))))))
            rcases List.mem_cons.1 hx with rfl | hx
            · exact List.mem_cons_of_mem _ (List.mem_cons_of_mem _ (List.mem_cons_of_mem _ (List.mem_cons_of_mem _ (List.mem_cons_of_mem _ (List.mem_cons_of_mem _ (List.mem_cons_of_mem _ (List.mem_cons_of_mem _ (List.mem_cons_of_mem _ (List.mem_cons_of_mem _ (List.mem_cons_of_mem _ (List.mem_cons_of_mem _ (List.mem_cons_of_mem _ (List.mem_cons_self ..)))))))))))))
            cases hx
          clear hk
          have hk := hk2
          clear hk2
          refine wp_seq_k fun K5 hK5 => ?_
          refine region_plan2 (fun w' => Below w14.heap.size w14 w') [(0, 0), (1, 0), (2, 0), (3, 0), (4, 0), (5, 0), (6, 0), (7, 1), (8, 0), (9, 0), (10, 0), (11, 0), (12, 0)] rfl (by kernel_rfl) (by kernel_rfl) rfl (by intro c a d v w h; cases d <;> exact h) (fun _ _ h => h) ?_
          intro OPS w14d hpW hbd
          clear hpW
          refine plan_k rfl hk (by decide) (by repeat' (first | exact far_nil _ | refine far_cons (by decide) ?_)) (v := .slice (some ⟨gk, 0, none⟩) n cap) (fun o ho w' hS => do_move ho (hk.at (List.mem_cons_of_mem _ (List.mem_cons_of_mem _ (List.mem_cons_of_mem _ (List.mem_cons_of_mem _ (List.mem_cons_of_mem _ (List.mem_cons_of_mem _ (List.mem_cons_of_mem _ (List.mem_cons_of_mem _ (List.mem_cons_of_mem _ (List.mem_cons_self ..)))))))))))) ?_
          clear hk; intro a hk
          refine plan_k rfl hk (by decide) (by repeat' (first | exact far_nil _ | refine far_cons (by decide) ?_)) (v := .int .i64 ((j + 1 : Nat) : Int)) (fun o ho w' hS => do_move ho (hk.at (List.mem_cons_of_mem _ (List.mem_cons_of_mem _ (List.mem_cons_of_mem _ (List.mem_cons_of_mem _ (List.mem_cons_of_mem _ (List.mem_cons_self ..)))))))) ?_
          clear hk; intro a hk
          refine plan_k rfl hk (by decide) (by repeat' (first | exact far_nil _ | refine far_cons (by decide) ?_)) (v := .int .i64 ((j + 1 + 1 : Nat) : Int)) (fun o ho w' hS => (do_addN (n := 1) ho Try.underlying3 (hk.at (List.mem_cons_self ..)) rfl (by rw [IntKind.wrap_i64]; omega))) ?_
          clear hk; intro a hk
          refine plan_k rfl hk (by decide) (by repeat' (first | exact far_nil _ | refine far_cons (by decide) ?_)) (v := .slice (tailK gk cap (j + 1 + 1)) (n - (j + 1 + 1)) (cap - (j + 1 + 1))) (fun o ho w' hS => do_tailK ho Try.underlying70 (by kernel_rfl) (hk.at (List.mem_cons_of_mem _ (List.mem_cons_of_mem _ (List.mem_cons_self ..)))) (hk.at (List.mem_cons_self ..)) (by omega) (by omega) hcap) ?_
          clear hk; intro a hk
          refine plan_k rfl hk (by decide) (by repeat' (first | exact far_nil _ | refine far_cons (by decide) ?_)) (v := .int .u32 ((tOf y : Nat) : Int)) (fun o ho w' hS => do_move ho (hk.at (List.mem_cons_of_mem _ (List.mem_cons_of_mem _ (List.mem_cons_of_mem _ (List.mem_cons_of_mem _ (List.mem_cons_of_mem _ (List.mem_cons_of_mem _ (List.mem_cons_self ..))))))))) ?_
          clear hk; intro a hk
          refine plan_k rfl hk (by decide) (by repeat' (first | exact far_nil _ | refine far_cons (by decide) ?_)) (v := .agg (bvs y).toArray) (fun o ho w' hS => do_ldA ksArr ho (hk.at (List.mem_cons_of_mem _ (List.mem_cons_of_mem _ (List.mem_cons_of_mem _ (List.mem_cons_of_mem _ (List.mem_cons_of_mem _ (List.mem_cons_of_mem _ (List.mem_cons_of_mem _ (List.mem_cons_of_mem _ (List.mem_cons_self ..)))))))))) (B10.kept hS) Ly) ?_
          clear hk; intro a hk
          refine plan_k rfl hk (by decide) (by repeat' (first | exact far_nil _ | refine far_cons (by decide) ?_)) (v := .agg (uN (vOf y)).toArray) (fun o ho w' hS => do_ldA u128Arr ho (hk.at (List.mem_cons_of_mem _ (List.mem_cons_of_mem _ (List.mem_cons_of_mem _ (List.mem_cons_of_mem _ (List.mem_cons_of_mem _ (List.mem_cons_of_mem _ (List.mem_cons_of_mem _ (List.mem_cons_self ..))))))))) (B12.kept hS) rfl) ?_
          clear hk; intro a hk
          refine plan_kw2 rfl fun o ho hd hgd => ?_
          refine wp_call hgd (do_call4 ho (hk.at (List.mem_cons_of_mem _ (List.mem_cons_of_mem _ (List.mem_cons_of_mem _ (List.mem_cons_self ..))))) (hk.at (List.mem_cons_of_mem _ (List.mem_cons_of_mem _ (List.mem_cons_self ..)))) (hk.at (List.mem_cons_of_mem _ (List.mem_cons_self ..))) (hk.at (List.mem_cons_self ..)) (ent4_rl _ _ _ _)) (rangeLength_ok (ss.drop (j + 1 + 1)) y (tOf y) (vOf y) (tailK gk cap (j + 1 + 1)) gk ((j + 1 + 1) * 20) (n - (j + 1 + 1)) (cap - (j + 1 + 1)) (flatK ss ++ more) _ _ (by rw [List.length_drop]; omega) (by omega) (fun z hz => h20 z (List.mem_of_mem_drop hz)) hy rfl rfl (by rw [hye, ← drop_at hj2]; exact hasc.drop _) (fun h => by unfold tailK; rw [if_neg (by omega)]) (BK.kept hbd) (fun i hi => by rw [getD_drop', ← Nat.add_mul]; exact flatK_at' h20 _ (by omega) more)) ?_
          rintro e w15 ⟨l, rfl, hl1, hl2, hbc⟩
          have hS1 := hbd.trans (hbc.mono hbd.size)
          refine ⟨_, rfl, ?_⟩
          rw [hd]
          refine keep_k (v := .tuple #[.int .i64 ((l : Nat) : Int), .int .i64 ((l : Nat) : Int)]) hk (by decide) (by repeat' (first | exact far_nil _ | refine far_cons (by decide) ?_)) ?_
          clear hk; intro a hk
          refine ⟨hS1, ?_⟩
          refine plan_k rfl hk (by decide) (by repeat' (first | exact far_nil _ | refine far_cons (by decide) ?_)) (v := .tuple #[.int .i64 ((l : Nat) : Int), .int .i64 ((l : Nat) : Int)]) (fun o ho w' hS => do_move ho (hk.at (List.mem_cons_self ..))) ?_
          clear hk; intro a hk
          refine plan_k rfl hk (by decide) (by repeat' (first | exact far_nil _ | refine far_cons (by decide) ?_)) (v := .int .i64 ((l : Nat) : Int)) (fun o ho w' hS => do_extract ho (hk.at (List.mem_cons_self ..)) rfl) ?_
          clear hk; intro a hk
          refine plan_k rfl hk (by decide) (by repeat' (first | exact far_nil _ | refine far_cons (by decide) ?_)) (v := .int .i64 ((l : Nat) : Int)) (fun o ho w' hS => do_extract ho (hk.at (List.mem_cons_of_mem _ (List.mem_cons_self ..))) rfl) ?_
          clear hk; intro a hk
          refine plan_k rfl hk (by decide) (by repeat' (first | exact far_nil _ | refine far_cons (by decide) ?_)) (v := .int .i64 ((l : Nat) : Int)) (fun o ho w' hS => do_assign ho (hk.at (List.mem_cons_of_mem _ (List.mem_cons_self ..)))) ?_
          clear hk; intro a hk
          refine plan_k rfl hk (by decide) (by repeat' (first | exact far_nil _ | refine far_cons (by decide) ?_)) (v := .int .i64 ((l : Nat) : Int)) (fun o ho w' hS => do_assign ho (hk.at (List.mem_cons_of_mem _ (List.mem_cons_self ..)))) ?_
          clear hk; intro a hk
          refine plan_k0 ?_
          replace BK := BK.kept hS1
          replace HO := OwnB.kept HO hS1
          replace B5 := B5.kept hS1
          replace B7 := B7.kept hS1
          replace B8 := B8.kept hS1
          replace B10 := B10.kept hS1
          replace B12 := B12.kept hS1
          replace B15 := B15.kept hS1
          have hb15 := hb14.trans (hS1.mono (Nat.le_trans hbase hb14.size))
          clear hS1 hbc hbd
          refine hK5 _ _ ?_
          clear hK5
          have hk2 : Keeps 144 ([(18, .int .i64 ((l : Nat) : Int)), (17, .int .i64 ((l : Nat) : Int)), (12, .pointer (some ⟨q12, 0, none⟩)), (11, .int .u32 ((tOf y : Nat) : Int)), (10, .pointer (some ⟨q10, 0, none⟩)), (9, .int .i64 ((j + 1 : Nat) : Int)), (8, .pointer (some ⟨q8, 0, none⟩)), (7, .pointer (some ⟨q7, 0, none⟩)), (6, .int .u32 ((tOf x : Nat) : Int)), (5, .pointer (some ⟨q5, 0, none⟩)), (1, .slice (some ⟨gk, 0, none⟩) n cap), (0, sv)]) a := by
            refine ⟨hk.1, hk.2.1, fun x hx => hk.2.2 x ?_⟩
            rcases List.mem_cons.1 hx with rfl | hx
            · exact List.mem_cons_self ..
            rcases List.mem_cons.1 hx with rfl | hx
            · exact List.mem_cons_of_mem _ (List.mem_cons_self ..)
            rcases List.mem_cons.1 hx with rfl | hx
            · exact List.mem_cons_of_mem _ (List.mem_cons_of_mem _ (List.mem_cons_of_mem _ (List.mem_cons_of_mem _ (List.mem_cons_of_mem _ (List.mem_cons_of_mem _ (List.mem_cons_of_mem _ (List.mem_cons_of_mem _ (List.mem_cons_of_mem _ (List.mem_cons_of_mem _ (List.mem_cons_of_mem _ (List.mem_cons_of_mem _ (List.mem_cons_of_mem _ (List.mem_cons_of_mem _ (List.mem_cons_self ..))))))))))))))
            rcases List.mem_cons.1 hx with rfl | hx
            · exact List.mem_cons_of_mem _ (List.mem_cons_of_mem _ (List.mem_cons_of_mem _ (List.mem_cons_of_mem _ (List.mem_cons_of_mem _ (List.mem_cons_of_mem _ (List.mem_cons_of_mem _ (List.mem_cons_of_mem _ (List.mem_cons_of_mem _ (List.mem_cons_of_mem _ (List.mem_cons_of_mem _ (List.mem_cons_of_mem _ (List.mem_cons_of_mem _ (List.mem_cons_of_mem _ (List.mem_cons_of_mem _ (List.mem_cons_self ..)))))))))))))))
            rcases List.mem_cons.1 hx with rfl | hx
            · exact List.mem_cons_of_mem _ (List.mem_cons_of_mem _ (List.mem_cons_of_mem _ (List.mem_cons_of_mem _ (List.mem_cons_of_mem _ (List.mem_cons_of_mem _ (List.mem_cons_of_mem _ (List.mem_cons_of_mem _ (List.mem_cons_of_mem _ (List.mem_cons_of_mem _ (List.mem_cons_of_mem _ (List.mem_cons_of_mem _ (List.mem_cons_of_mem _ (List.mem_cons_of_mem _ (List.mem_cons_of_mem _ (List.mem_cons_of_mem _ (List.mem_cons_self ..))))))))))))))))
            rcases List.mem_cons.1 hx with rfl | hx
            · exact List.mem_cons_of_mem _ (List.mem_cons_of_mem _ (List.mem_cons_of_mem _ (List.mem_cons_of_mem _ (List.mem_cons_of_mem _ (List.mem_cons_of_mem _ (List.mem_cons_of_mem _ (List.mem_cons_of_mem _ (List.mem_cons_of_mem _ (List.mem_cons_of_mem _ (List.mem_cons_of_mem _ (List.mem_cons_of_mem _ (List.mem_cons_of_mem _ (List.mem_cons_of_mem _ (List.mem_cons_of_mem _ (List.mem_cons_of_mem _ (List.mem_cons_of_mem _ (List.mem_cons_self ..)))))))))))))))))
            rcases List.mem_cons.1 hx with rfl | hx
            · exact List.mem_cons_of_mem _ (List.mem_cons_of_mem _ (List.mem_cons_of_mem _ (List.mem_cons_of_mem _ (List.mem_cons_of_mem _ (List.mem_cons_of_mem _ (List.mem_cons_of_mem _ (List.mem_cons_of_mem _ (List.mem_cons_of_mem _ (List.mem_cons_of_mem _ (List.mem_cons_of_mem _ (List.mem_cons_of_mem _ (List.mem_cons_of_mem _ (List.mem_cons_of_mem _ (List.mem_cons_of_mem _ (List.mem_cons_of_mem _ (List.mem_cons_of_mem _ (List.mem_cons_of_mem _ (List.mem_cons_self ..))))))))))))))))))
            rcases List.mem_cons.1 hx with rfl | hx
            · exact List.mem_cons_of_mem _ (List.mem_cons_of_mem _ (List.mem_cons_of_mem _ (List.mem_cons_of_mem _ (List.mem_cons_of_mem _ (List.mem_cons_of_mem _ (List.mem_cons_of_mem _ (List.mem_cons_of_mem _ (List.mem_cons_of_mem _ (List.mem_cons_of_mem _ (List.mem_cons_of_mem _ (List.mem_cons_of_mem _ (List.mem_cons_of_mem _ (List.mem_cons_of_mem _ (List.mem_cons_of_mem _ (List.mem_cons_of_mem _ (List.mem_cons_of_mem _ (List.mem_cons_of_mem _ (List.mem_cons_of_mem _ (List.mem_cons_self ..)))))))))))))))))))
            rcases List.mem_cons.1 hx with rfl | hx
            · exact List.mem_cons_of_mem _ (List.mem_cons_of_mem _ (List.mem_cons_of_mem _ (List.mem_cons_of_mem _ (List.mem_cons_of_mem _ (List.mem_cons_of_mem _ (List.mem_cons_of_mem _ (List.mem_cons_of_mem _ (List.mem_cons_of_mem _ (List.mem_cons_of_mem _ (List.mem_cons_of_mem _ (List.mem_cons_of_mem _ (List.mem_cons_of_mem _ (List.mem_cons_of_mem _ (List.mem_cons_of_mem _ (List.mem_cons_of_mem _ (List.mem_cons_of_mem _ (List.mem_cons_of_mem _ (List.mem_cons_of_mem _ (List.mem_cons_of_mem _ (List.mem_cons_self ..))))))))))))))))))))
            rcases List.mem_cons.1 hx with rfl | hx
            · exact List.mem_cons_of_mem _ (List.mem_cons_of_mem _ (List.mem_cons_of_mem _ (List.mem_cons_of_mem _ (List.mem_cons_of_mem _ (List.mem_cons_of_mem _ (List.mem_cons_of_mem _ (List.mem_cons_of_mem _ (List.mem_cons_of_mem _ (List.mem_cons_of_mem _ (List.mem_cons_of_mem _ (List.mem_cons_of_mem _ (List.mem_cons_of_mem _ (List.mem_cons_of_mem _ (List.mem_cons_of_mem _ (List.mem_cons_of_mem _ (List.mem_cons_of_mem _ (List.mem_cons_of_mem _ (List.mem_cons_of_mem _ (List.mem_cons_of_mem _ (List.mem_cons_of_mem _ (List.mem_cons_self ..)))))))))))))))))))))
            rcases List.mem_cons.1 hx with rfl | hx
            · exact List.mem_cons_of_mem _ (List.mem_cons_of_mem _ (List.mem_cons_of_mem _ (List.mem_cons_of_mem _ (List.mem_cons_of_mem _ (List.mem_cons_of_mem _ (List.mem_cons_of_mem _ (List.mem_cons_of_mem _ (List.mem_cons_of_mem _ (List.mem_cons_of_mem _ (List.mem_cons_of_mem _ (List.mem_cons_of_mem _ (List.mem_cons_of_mem _ (List.mem_cons_of_mem _ (List.mem_cons_of_mem _ (List.mem_cons_of_mem _ (List.mem_cons_of_mem _ (List.mem_cons_of_mem _ (List.mem_cons_of_mem _ (List.mem_cons_of_mem _ (List.mem_cons_of_mem _ (List.mem_cons_of_mem _ (List.mem_cons_self ..))))))))))))))))))))))
            rcases List.mem_cons.1 hx with rfl | hx
            · exact List.mem_cons_of_mem _ (List.mem_cons_of_mem _ (List.mem_cons_of_mem _ (List.mem_cons_of_mem _ (List.mem_cons_of_mem _ (List.mem_cons_of_mem _ (List.mem_cons_of_mem _ (List.mem_cons_of_mem _ (List.mem_cons_of_mem _ (List.mem_cons_of_mem _ (List.mem_cons_of_mem _ (List.mem_cons_of_mem _ (List.mem_cons_of_mem _ (List.mem_cons_of_mem _ (List.mem_cons_of_mem _ (List.mem_cons_of_mem _ (List.mem_cons_of_mem _ (List.mem_cons_of_mem _ (List.mem_cons_of_mem _ (List.mem_cons_of_mem _ (List.mem_cons_of_mem _ (List.mem_cons_of_mem _ (List.mem_cons_of_mem _ (List.mem_cons_self ..)))))))))))))))))))))))
            cases hx
          clear hk
          have hk := hk2
          clear hk2
          refine wp_seq_k fun K5 hK5 => ?_
          refine wp_region_lit ?_
          refine list_k rfl rfl hk (by decide) (by repeat' (first | exact far_nil _ | refine far_cons (by decide) ?_)) (v := .int .i64 ((l : Nat) : Int)) (do_move rfl (hk.at (List.mem_cons_of_mem _ (List.mem_cons_self ..)))) ?_
          clear hk; intro a hk
          refine list_k rfl rfl hk (by decide) (by repeat' (first | exact far_nil _ | refine far_cons (by decide) ?_)) (v := .int .i64 ((l + 1 : Nat) : Int)) ((do_addN (n := 1) rfl Try.underlying3 (hk.at (List.mem_cons_self ..)) rfl (by rw [IntKind.wrap_i64]; omega))) ?_
          clear hk; intro a hk
          refine list_k rfl rfl hk (by decide) (by repeat' (first | exact far_nil _ | refine far_cons (by decide) ?_)) (v := .int .u64 ((l + 1 : Nat) : Int)) (do_cvtN rfl Try.underlying3 Try.underlying30 (hk.at (List.mem_cons_self ..)) (by rw [IntKind.wrap_u64]; omega)) ?_
          clear hk; intro a hk
          refine list_k rfl rfl hk (by decide) (by repeat' (first | exact far_nil _ | refine far_cons (by decide) ?_)) (v := .int .u64 ((l + 1 : Nat) : Int)) (do_assign rfl (hk.at (List.mem_cons_self ..))) ?_
          clear hk; intro a hk
          refine hK5 _ _ ?_
          clear hK5
          have hk2 : Keeps 144 ([(19, .int .u64 ((l + 1 : Nat) : Int)), (18, .int .i64 ((l : Nat) : Int)), (12, .pointer (some ⟨q12, 0, none⟩)), (11, .int .u32 ((tOf y : Nat) : Int)), (10, .pointer (some ⟨q10, 0, none⟩)), (9, .int .i64 ((j + 1 : Nat) : Int)), (8, .pointer (some ⟨q8, 0, none⟩)), (7, .pointer (some ⟨q7, 0, none⟩)), (6, .int .u32 ((tOf x : Nat) : Int)), (5, .pointer (some ⟨q5, 0, none⟩)), (1, .slice (some ⟨gk, 0, none⟩) n cap), (0, sv)]) a := by
            refine ⟨hk.1, hk.2.1, fun x hx => hk.2.2 x ?_⟩
            rcases List.mem_cons.1 hx with rfl | hx
            · exact List.mem_cons_self ..
            rcases List.mem_cons.1 hx with rfl | hx
            · exact List.mem_cons_of_mem _ (List.mem_cons_of_mem _ (List.mem_cons_of_mem _ (List.mem_cons_of_mem _ (List.mem_cons_self ..))))
            rcases List.mem_cons.1 hx with rfl | hx
            · exact List.mem_cons_of_mem _ (List.mem_cons_of_mem _ (List.mem_cons_of_mem _ (List.mem_cons_of_mem _ (List.mem_cons_of_mem _ (List.mem_cons_of_mem _ (List.mem_cons_self ..))))))
            rcases List.mem_cons.1 hx with rfl | hx
            · exact List.mem_cons_of_mem _ (List.mem_cons_of_mem _ (List.mem_cons_of_mem _ (List.mem_cons_of_mem _ (List.mem_cons_of_mem _ (List.mem_cons_of_mem _ (List.mem_cons_of_mem _ (List.mem_cons_self ..)))))))
            rcases List.mem_cons.1 hx with rfl | hx
            · exact List.mem_cons_of_mem _ (List.mem_cons_of_mem _ (List.mem_cons_of_mem _ (List.mem_cons_of_mem _ (List.mem_cons_of_mem _ (List.mem_cons_of_mem _ (List.mem_cons_of_mem _ (List.mem_cons_of_mem _ (List.mem_cons_self ..))))))))
            rcases List.mem_cons.1 hx with rfl | hx
            · exact List.mem_cons_of_mem _ (List.mem_cons_of_mem _ (List.mem_cons_of_mem _ (List.mem_cons_of_mem _ (List.mem_cons_of_mem _ (List.mem_cons_of_mem _ (List.mem_cons_of_mem _ (List.mem_cons_of_mem _ (List.mem_cons_of_mem _ (List.mem_cons_self ..)))))))))
            rcases List.mem_cons.1 hx with rfl | hx
            · exact List.mem_cons_of_mem _ (List.mem_cons_of_mem _ (List.mem_cons_of_mem _ (List.mem_cons_of_mem _ (List.mem_cons_of_mem _ (List.mem_cons_of_mem _ (List.mem_cons_of_mem _ (List.mem_cons_of_mem _ (List.mem_cons_of_mem _ (List.mem_cons_of_mem _ (List.mem_cons_self ..))))))))))
            rcases List.mem_cons.1 hx with rfl | hx
            · exact List.mem_cons_of_mem _ (List.mem_cons_of_mem _ (List.mem_cons_of_mem _ (List.mem_cons_of_mem _ (List.mem_cons_of_mem _ (List.mem_cons_of_mem _ (List.mem_cons_of_mem _ (List.mem_cons_of_mem _ (List.mem_cons_of_mem _ (List.mem_cons_of_mem _ (List.mem_cons_of_mem _ (List.mem_cons_self ..)))))))))))
            rcases List.mem_cons.1 hx with rfl | hx
            · exact List.mem_cons_of_mem _ (List.mem_cons_of_mem _ (List.mem_cons_of_mem _ (List.mem_cons_of_mem _ (List.mem_cons_of_mem _ (List.mem_cons_of_mem _ (List.mem_cons_of_mem _ (List.mem_cons_of_mem _ (List.mem_cons_of_mem _ (List.mem_cons_of_mem _ (List.mem_cons_of_mem _ (List.mem_cons_of_mem _ (List.mem_cons_self ..))))))))))))
            rcases List.mem_cons.1 hx with rfl | hx
            · exact List.mem_cons_of_mem _ (List.mem_cons_of_mem _ (List.mem_cons_of_mem _ (List.mem_cons_of_mem _ (List.mem_cons_of_mem _ (List.mem_cons_of_mem _ (List.mem_cons_of_mem _ (List.mem_cons_of_mem _ (List.mem_cons_of_mem _ (List.mem_cons_of_mem _ (List.mem_cons_of_mem _ (List.mem_cons_of_mem _ (List.mem_cons_of_mem _ (List.mem_cons_self ..)))))))))))))
            rcases List.mem_cons.1 hx with rfl | hx
            · exact List.mem_cons_of_mem _ (List.mem_cons_of_mem _ (List.mem_cons_of_mem _ (List.mem_cons_of_mem _ (List.mem_cons_of_mem _ (List.mem_cons_of_mem _ (List.mem_cons_of_mem _ (List.mem_cons_of_mem _ (List.mem_cons_of_mem _ (List.mem_cons_of_mem _ (List.mem_cons_of_mem _ (List.mem_cons_of_mem _ (List.mem_cons_of_mem _ (List.mem_cons_of_mem _ (List.mem_cons_self ..))))))))))))))
            rcases List.mem_cons.1 hx with rfl | hx
            · exact List.mem_cons_of_mem _ (List.mem_cons_of_mem _ (List.mem_cons_of_mem _ (List.mem_cons_of_mem _ (List.mem_cons_of_mem _ (List.mem_cons_of_mem _ (List.mem_cons_of_mem _ (List.mem_cons_of_mem _ (List.mem_cons_of_mem _ (List.mem_cons_of_mem _ (List.mem_cons_of_mem _ (List.mem_cons_of_mem _ (List.mem_cons_of_mem _ (List.mem_cons_of_mem _ (List.mem_cons_of_mem _ (List.mem_cons_self ..)))))))))))))))
            cases hx
          clear hk
          have hk := hk2
          clear hk2
          refine wp_seq_k fun K5 hK5 => ?_
          refine wp_region_lit ?_
          refine list_k rfl rfl hk (by decide) (by repeat' (first | exact far_nil _ | refine far_cons (by decide) ?_)) (v := .int .u64 ((l + 1 : Nat) : Int)) (do_move rfl (hk.at (List.mem_cons_self ..))) ?_
          clear hk; intro a hk
          refine wp_call rfl (do_call1 rfl (hk.at (List.mem_cons_self ..)) (ent1_l64 _)) (vlen64_ok (l + 1) _ (by omega)) ?_
          rintro e w16 ⟨m, rfl, hm1, hm2, hm3, hww⟩
          subst hww
          refine ⟨_, rfl, ?_⟩
          refine keep_k (v := .int .i64 ((m : Nat) : Int)) hk (by decide) (by repeat' (first | exact far_nil _ | refine far_cons (by decide) ?_)) ?_
          clear hk; intro a hk
          refine list_k rfl rfl hk (by decide) (by repeat' (first | exact far_nil _ | refine far_cons (by decide) ?_)) (v := .int .i64 ((m : Nat) : Int)) (do_assign rfl (hk.at (List.mem_cons_self ..))) ?_
          clear hk; intro a hk
          refine hK5 _ _ ?_
          clear hK5
          have hk2 : Keeps 144 ([(20, .int .i64 ((m : Nat) : Int)), (19, .int .u64 ((l + 1 : Nat) : Int)), (18, .int .i64 ((l : Nat) : Int)), (12, .pointer (some ⟨q12, 0, none⟩)), (11, .int .u32 ((tOf y : Nat) : Int)), (10, .pointer (some ⟨q10, 0, none⟩)), (9, .int .i64 ((j + 1 : Nat) : Int)), (8, .pointer (some ⟨q8, 0, none⟩)), (7, .pointer (some ⟨q7, 0, none⟩)), (6, .int .u32 ((tOf x : Nat) : Int)), (5, .pointer (some ⟨q5, 0, none⟩)), (1, .slice (some ⟨gk, 0, none⟩) n cap), (0, sv)]) a := by
            refine ⟨hk.1, hk.2.1, fun x hx => hk.2.2 x ?_⟩
            rcases List.mem_cons.1 hx with rfl | hx
            · exact List.mem_cons_self ..
            rcases List.mem_cons.1 hx with rfl | hx
            · exact List.mem_cons_of_mem _ (List.mem_cons_of_mem _ (List.mem_cons_of_mem _ (List.mem_cons_self ..)))
            rcases List.mem_cons.1 hx with rfl | hx
            · exact List.mem_cons_of_mem _ (List.mem_cons_of_mem _ (List.mem_cons_of_mem _ (List.mem_cons_of_mem _ (List.mem_cons_self ..))))
            rcases List.mem_cons.1 hx with rfl | hx
            · exact List.mem_cons_of_mem _ (List.mem_cons_of_mem _ (List.mem_cons_of_mem _ (List.mem_cons_of_mem _ (List.mem_cons_of_mem _ (List.mem_cons_self ..)))))
            rcases List.mem_cons.1 hx with rfl | hx
            · exact List.mem_cons_of_mem _ (List.mem_cons_of_mem _ (List.mem_cons_of_mem _ (List.mem_cons_of_mem _ (List.mem_cons_of_mem _ (List.mem_cons_of_mem _ (List.mem_cons_self ..))))))
            rcases List.mem_cons.1 hx with rfl | hx
            · exact List.mem_cons_of_mem _ (List.mem_cons_of_mem _ (List.mem_cons_of_mem _ (List.mem_cons_of_mem _ (List.mem_cons_of_mem _ (List.mem_cons_of_mem _ (List.mem_cons_of_mem _ (List.mem_cons_self ..)))))))
            rcases List.mem_cons.1 hx with rfl | hx
            · exact List.mem_cons_of_mem _ (List.mem_cons_of_mem _ (List.mem_cons_of_mem _ (List.mem_cons_of_mem _ (List.mem_cons_of_mem _ (List.mem_cons_of_mem _ (List.mem_cons_of_mem _ (List.mem_cons_of_mem _ (List.mem_cons_self ..))))))))
            rcases List.mem_cons.1 hx with rfl | hx
            · exact List.mem_cons_of_mem _ (List.mem_cons_of_mem _ (List.mem_cons_of_mem _ (List.mem_cons_of_mem _ (List.mem_cons_of_mem _ (List.mem_cons_of_mem _ (List.mem_cons_of_mem _ (List.mem_cons_of_mem _ (List.mem_cons_of_mem _ (List.mem_cons_self ..)))))))))
            rcases List.mem_cons.1 hx with rfl | hx
            · exact List.mem_cons_of_mem _ (List.mem_cons_of_mem _ (List.mem_cons_of_mem _ (List.mem_cons_of_mem _ (List.mem_cons_of_mem _ (List.mem_cons_of_mem _ (List.mem_cons_of_mem _ (List.mem_cons_of_mem _ (List.mem_cons_of_mem _ (List.mem_cons_of_mem _ (List.mem_cons_self ..))))))))))
            rcases List.mem_cons.1 hx with rfl | hx
            · exact List.mem_cons_of_mem _ (List.mem_cons_of_mem _ (List.mem_cons_of_mem _ (List.mem_cons_of_mem _ (List.mem_cons_of_mem _ (List.mem_cons_of_mem _ (List.mem_cons_of_mem _ (List.mem_cons_of_mem _ (List.mem_cons_of_mem _ (List.mem_cons_of_mem _ (List.mem_cons_of_mem _ (List.mem_cons_self ..)))))))))))
            rcases List.mem_cons.1 hx with rfl | hx
            · exact List.mem_cons_of_mem _ (List.mem_cons_of_mem _ (List.mem_cons_of_mem _ (List.mem_cons_of_mem _ (List.mem_cons_of_mem _ (List.mem_cons_of_mem _ (List.mem_cons_of_mem _ (List.mem_cons_of_mem _ (List.mem_cons_of_mem _ (List.mem_cons_of_mem _ (List.mem_cons_of_mem _ (List.mem_cons_of_mem _ (List.mem_cons_self ..))))))))))))
            rcases List.mem_cons.1 hx with rfl | hx
            · exact List.mem_cons_of_mem _ (List.mem_cons_of_mem _ (List.mem_cons_of_mem _ (List.mem_cons_of_mem _ (List.mem_cons_of_mem _ (List.mem_cons_of_mem _ (List.mem_cons_of_mem _ (List.mem_cons_of_mem _ (List.mem_cons_of_mem _ (List.mem_cons_of_mem _ (List.mem_cons_of_mem _ (List.mem_cons_of_mem _ (List.mem_cons_of_mem _ (List.mem_cons_self ..)))))))))))))
            rcases List.mem_cons.1 hx with rfl | hx
            · exact List.mem_cons_of_mem _ (List.mem_cons_of_mem _ (List.mem_cons_of_mem _ (List.mem_cons_of_mem _ (List.mem_cons_of_mem _ (List.mem_cons_of_mem _ (List.mem_cons_of_mem _ (List.mem_cons_of_mem _ (List.mem_cons_of_mem _ (List.mem_cons_of_mem _ (List.mem_cons_of_mem _ (List.mem_cons_of_mem _ (List.mem_cons_of_mem _ (List.mem_cons_of_mem _ (List.mem_cons_self ..))))))))))))))
            cases hx
          clear hk
          have hk := hk2
          clear hk2
          refine wp_seq_k fun K5 hK5 => ?_
          refine wp_region_lit ?_
          refine list_k rfl rfl hk (by decide) (by repeat' (first | exact far_nil _ | refine far_cons (by decide) ?_)) (v := sv) (do_move rfl (hk.at (List.mem_cons_of_mem _ (List.mem_cons_of_mem _ (List.mem_cons_of_mem _ (List.mem_cons_of_mem _ (List.mem_cons_of_mem _ (List.mem_cons_of_mem _ (List.mem_cons_of_mem _ (List.mem_cons_of_mem _ (List.mem_cons_of_mem _ (List.mem_cons_of_mem _ (List.mem_cons_of_mem _ (List.mem_cons_of_mem _ (List.mem_cons_self ..))))))))))))))) ?_
          clear hk; intro a hk
          refine list_k rfl rfl hk (by decide) (by repeat' (first | exact far_nil _ | refine far_cons (by decide) ?_)) (v := .int .i64 ((m : Nat) : Int)) (do_move rfl (hk.at (List.mem_cons_of_mem _ (List.mem_cons_self ..)))) ?_
          clear hk; intro a hk
          refine list_k rfl rfl hk (by decide) (by repeat' (first | exact far_nil _ | refine far_cons (by decide) ?_)) (v := .int .u8 ((m : Nat) : Int)) (do_cvtN rfl Try.underlying3 Try.underlying5 (hk.at (List.mem_cons_self ..)) (by rw [IntKind.wrap_u8]; omega)) ?_
          clear hk; intro a hk
          refine list_k rfl rfl hk (by decide) (by repeat' (first | exact far_nil _ | refine far_cons (by decide) ?_)) (v := .int .u8 ((192 + m : Nat) : Int)) (do_orB rfl Try.underlying5 (hk.at (List.mem_cons_self ..)) (or192n m (by omega))) ?_
          clear hk; intro a hk
          obtain ⟨qb, hqb⟩ : ∃ q, q = w16.heap.size := ⟨_, rfl⟩
          refine wp_byte1 rfl rfl Try.underlying22 BI.1 BI.2.1 BI.2.2 (m := 192 + m) (hk.at (List.mem_cons_self ..)) (by omega) hqb.symm ?_
          intro w17 BL gg ss
          replace BK := BK.grown gg (by simp)
          replace HO := OwnB.kept HO (below_grown gg)
          replace B5 := B5.grown gg (by simp)
          replace B7 := B7.grown gg (by simp)
          replace B8 := B8.grown gg (by simp)
          replace B10 := B10.grown gg (by simp)
          replace B12 := B12.grown gg (by simp)
          replace B15 := B15.grown gg (by simp)
          have hb17 := hb15.trans ((below_grown gg).mono (Nat.le_trans hbase hb15.size))
          clear gg ss hqb hb15
          refine keep_k (v := .slice (some ⟨qb, 0, none⟩) 1 1) hk (by decide) (by repeat' (first | exact far_nil _ | refine far_cons (by decide) ?_)) ?_
          clear hk; intro a hk
          refine wp_append_rd rfl rfl Try.underlying22 info5 rfl (hk.at (List.mem_cons_self ..)) (hk.at (List.mem_cons_of_mem _ (List.mem_cons_of_mem _ (List.mem_cons_of_mem _ (List.mem_cons_of_mem _ (List.mem_cons_self ..)))))) HO (BL.rd (by simp)) rfl (by simp; omega) (Nat.le_trans hbase hb17.size) ?_
          intro sv3 w18 HOn gg
          replace BK := BK.grown gg (own_ne HO BK (by decide))
          replace B5 := B5.grown gg (own_ne HO B5 (by decide))
          replace B7 := B7.grown gg (own_ne HO B7 (by decide))
          replace B8 := B8.grown gg (own_ne HO B8 (by decide))
          replace B10 := B10.grown gg (own_ne HO B10 (by decide))
          replace B12 := B12.grown gg (own_ne HO B12 (by decide))
          replace B15 := B15.grown gg (own_ne HO B15 (by decide))
          have hb18 := hb17.grown gg (Nat.le_trans hbase hb17.size) (fun j hj => (HO.lt j hj).1)
          clear gg HO hb17 BL
          have HO := HOn
          clear HOn
          refine keep_k (v := sv3) hk (by decide) (by repeat' (first | exact far_nil _ | refine far_cons (by decide) ?_)) ?_
          clear hk; intro a hk
          have hk2 : Keeps 144 ([(127, sv3), (126, .slice (some ⟨qb, 0, none⟩) 1 1), (125, .int .u8 ((192 + m : Nat) : Int)), (124, .int .u8 ((m : Nat) : Int)), (123, .int .i64 ((m : Nat) : Int)), (122, sv), (20, .int .i64 ((m : Nat) : Int)), (19, .int .u64 ((l + 1 : Nat) : Int)), (18, .int .i64 ((l : Nat) : Int)), (12, .pointer (some ⟨q12, 0, none⟩)), (11, .int .u32 ((tOf y : Nat) : Int)), (10, .pointer (some ⟨q10, 0, none⟩)), (9, .int .i64 ((j + 1 : Nat) : Int)), (8, .pointer (some ⟨q8, 0, none⟩)), (7, .pointer (some ⟨q7, 0, none⟩)), (6, .int .u32 ((tOf x : Nat) : Int)), (5, .pointer (some ⟨q5, 0, none⟩)), (1, .slice (some ⟨gk, 0, none⟩) n cap)]) a := by
            refine ⟨hk.1, hk.2.1, fun x hx => hk.2.2 x ?_⟩
            rcases List.mem_cons.1 hx with rfl | hx
            · exact List.mem_cons_self ..
            rcases List.mem_cons.1 hx with rfl | hx
            · exact List.mem_cons_of_mem _ (List.mem_cons_self ..)
            rcases List.mem_cons.1 hx with rfl | hx
            · exact List.mem_cons_of_mem _ (List.mem_cons_of_mem _ (List.mem_cons_self ..))
            rcases List.mem_cons.1 hx with rfl | hx
            · exact List.mem_cons_of_mem _ (List.mem_cons_of_mem _ (List.mem_cons_of_mem _ (List.mem_cons_self ..)))
            rcases List.mem_cons.1 hx with rfl | hx
            · exact List.mem_cons_of_mem _ (List.mem_cons_of_mem _ (List.mem_cons_of_mem _ (List.mem_cons_of_mem _ (List.mem_cons_self ..))))
            rcases List.mem_cons.1 hx with rfl | hx
            · exact List.mem_cons_of_mem _ (List.mem_cons_of_mem _ (List.mem_cons_of_mem _ (List.mem_cons_of_mem _ (List.mem_cons_of_mem _ (List.mem_cons_self ..)))))
            rcases List.mem_cons.1 hx with rfl | hx
            · exact List.mem_cons_of_mem _ (List.mem_cons_of_mem _ (List.mem_cons_of_mem _ (List.mem_cons_of_mem _ (List.mem_cons_of_mem _ (List.mem_cons_of_mem _ (List.mem_cons_self ..))))))
            rcases List.mem_cons.1 hx with rfl | hx
            · exact List.mem_cons_of_mem _ (List.mem_cons_of_mem _ (List.mem_cons_of_mem _ (List.mem_cons_of_mem _ (List.mem_cons_of_mem _ (List.mem_cons_of_mem _ (List.mem_cons_of_mem _ (List.mem_cons_self ..)))))))
            rcases List.mem_cons.1 hx with rfl | hx
            · exact List.mem_cons_of_mem _ (List.mem_cons_of_mem _ (List.mem_cons_of_mem _ (List.mem_cons_of_mem _ (List.mem_cons_of_mem _ (List.mem_cons_of_mem _ (List.mem_cons_of_mem _ (List.mem_cons_of_mem _ (List.mem_cons_self ..))))))))
            rcases List.mem_cons.1 hx with rfl | hx
            · exact List.mem_cons_of_mem _ (List.mem_cons_of_mem _ (List.mem_cons_of_mem _ (List.mem_cons_of_mem _ (List.mem_cons_of_mem _ (List.mem_cons_of_mem _ (List.mem_cons_of_mem _ (List.mem_cons_of_mem _ (List.mem_cons_of_mem _ (List.mem_cons_self ..)))))))))
            rcases List.mem_cons.1 hx with rfl | hx
            · exact List.mem_cons_of_mem _ (List.mem_cons_of_mem _ (List.mem_cons_of_mem _ (List.mem_cons_of_mem _ (List.mem_cons_of_mem _ (List.mem_cons_of_mem _ (List.mem_cons_of_mem _ (List.mem_cons_of_mem _ (List.mem_cons_of_mem _ (List.mem_cons_of_mem _ (List.mem_cons_self ..))))))))))
            rcases List.mem_cons.1 hx with rfl | hx
            · exact List.mem_cons_of_mem _ (List.mem_cons_of_mem _ (List.mem_cons_of_mem _ (List.mem_cons_of_mem _ (List.mem_cons_of_mem _ (List.mem_cons_of_mem _ (List.mem_cons_of_mem _ (List.mem_cons_of_mem _ (List.mem_cons_of_mem _ (List.mem_cons_of_mem _ (List.mem_cons_of_mem _ (List.mem_cons_self ..)))))))))))
            rcases List.mem_cons.1 hx with rfl | hx
            · exact List.mem_cons_of_mem _ (List.mem_cons_of_mem _ (List.mem_cons_of_mem _ (List.mem_cons_of_mem _ (List.mem_cons_of_mem _ (List.mem_cons_of_mem _ (List.mem_cons_of_mem _ (List.mem_cons_of_mem _ (List.mem_cons_of_mem _ (List.mem_cons_of_mem _ (List.mem_cons_of_mem _ (List.mem_cons_of_mem _ (List.mem_cons_self ..))))))))))))
            rcases List.mem_cons.1 hx with rfl | hx
            · exact List.mem_cons_of_mem _ (List.mem_cons_of_mem _ (List.mem_cons_of_mem _ (List.mem_cons_of_mem _ (List.mem_cons_of_mem _ (List.mem_cons_of_mem _ (List.mem_cons_of_mem _ (List.mem_cons_of_mem _ (List.mem_cons_of_mem _ (List.mem_cons_of_mem _ (List.mem_cons_of_mem _ (List.mem_cons_of_mem _ (List.mem_cons_of_mem _ (List.mem_cons_self ..)))))))))))))
            rcases List.mem_cons.1 hx with rfl | hx
            · exact List.mem_cons_of_mem _ (List.mem_cons_of_mem _ (List.mem_cons_of_mem _ (List.mem_cons_of_mem _ (List.mem_cons_of_mem _ (List.mem_cons_of_mem _ (List.mem_cons_of_mem _ (List.mem_cons_of_mem _ (List.mem_cons_of_mem _ (List.mem_cons_of_mem _ (List.mem_cons_of_mem _ (List.mem_cons_of_mem _ (List.mem_cons_of_mem _ (List.mem_cons_of_mem _ (List.mem_cons_self ..))))))))))))))
            rcases List.mem_cons.1 hx with rfl | hx
            · exact List.mem_cons_of_mem _ (List.mem_cons_of_mem _ (List.mem_cons_of_mem _ (List.mem_cons_of_mem _ (List.mem_cons_of_mem _ (List.mem_cons_of_mem _ (List.mem_cons_of_mem _ (List.mem_cons_of_mem _ (List.mem_cons_of_mem _ (List.mem_cons_of_mem _ (List.mem_cons_of_mem _ (List.mem_cons_of_mem _ (List.mem_cons_of_mem _ (List.mem_cons_of_mem _ (List.mem_cons_of_mem _ (List.mem_cons_self ..)))))))))))))))
            rcases List.mem_cons.1 hx with rfl | hx
            · exact List.mem_cons_of_mem _ (List.mem_cons_of_mem _ (List.mem_cons_of_mem _ (List.mem_cons_of_mem _ (List.mem_cons_of_mem _ (List.mem_cons_of_mem _ (List.mem_cons_of_mem _ (List.mem_cons_of_mem _ (List.mem_cons_of_mem _ (List.mem_cons_of_mem _ (List.mem_cons_of_mem _ (List.mem_cons_of_mem _ (List.mem_cons_of_mem _ (List.mem_cons_of_mem _ (List.mem_cons_of_mem _ (List.mem_cons_of_mem _ (List.mem_cons_self ..))))))))))))))))
            rcases List.mem_cons.1 hx with rfl | hx
            · exact List.mem_cons_of_mem _ (List.mem_cons_of_mem _ (List.mem_cons_of_mem _ (List.mem_cons_of_mem _ (List.mem_cons_of_mem _ (List.mem_cons_of_mem _ (List.mem_cons_of_mem _ (List.mem_cons_of_mem _ (List.mem_cons_of_mem _ (List.mem_cons_of_mem _ (List.mem_cons_of_mem _ (List.mem_cons_of_mem _ (List.mem_cons_of_mem _ (List.mem_cons_of_mem _ (List.mem_cons_of_mem _ (List.mem_cons_of_mem _ (List.mem_cons_of_mem _ (List.mem_cons_self ..)))))))))))))))))
            cases hx
          clear hk
          have hk := hk2
          clear hk2
          refine list_k rfl rfl hk (by decide) (by repeat' (first | exact far_nil _ | refine far_cons (by decide) ?_)) (v := sv3) (do_assign rfl (hk.at (List.mem_cons_self ..))) ?_
          clear hk; intro a hk
          refine hK5 _ _ ?_
          clear hK5
          have hk2 : Keeps 144 ([(0, sv3), (20, .int .i64 ((m : Nat) : Int)), (19, .int .u64 ((l + 1 : Nat) : Int)), (18, .int .i64 ((l : Nat) : Int)), (12, .pointer (some ⟨q12, 0, none⟩)), (11, .int .u32 ((tOf y : Nat) : Int)), (10, .pointer (some ⟨q10, 0, none⟩)), (9, .int .i64 ((j + 1 : Nat) : Int)), (8, .pointer (some ⟨q8, 0, none⟩)), (7, .pointer (some ⟨q7, 0, none⟩)), (6, .int .u32 ((tOf x : Nat) : Int)), (5, .pointer (some ⟨q5, 0, none⟩)), (1, .slice (some ⟨gk, 0, none⟩) n cap)]) a := by
            refine ⟨hk.1, hk.2.1, fun x hx => hk.2.2 x ?_⟩
            rcases List.mem_cons.1 hx with rfl | hx
            · exact List.mem_cons_self ..
            rcases List.mem_cons.1 hx with rfl | hx
            · exact List.mem_cons_of_mem _ (List.mem_cons_of_mem _ (List.mem_cons_of_mem _ (List.mem_cons_of_mem _ (List.mem_cons_of_mem _ (List.mem_cons_of_mem _ (List.mem_cons_of_mem _ (List.mem_cons_self ..)))))))
            rcases List.mem_cons.1 hx with rfl | hx
            · exact List.mem_cons_of_mem _ (List.mem_cons_of_mem _ (List.mem_cons_of_mem _ (List.mem_cons_of_mem _ (List.mem_cons_of_mem _ (List.mem_cons_of_mem _ (List.mem_cons_of_mem _ (List.mem_cons_of_mem _ (List.mem_cons_self ..))))))))
            rcases List.mem_cons.1 hx with rfl | hx
            · exact List.mem_cons_of_mem _ (List.mem_cons_of_mem _ (List.mem_cons_of_mem _ (List.mem_cons_of_mem _ (List.mem_cons_of_mem _ (List.mem_cons_of_mem _ (List.mem_cons_of_mem _ (List.mem_cons_of_mem _ (List.mem_cons_of_mem _ (List.mem_cons_self ..)))))))))
            rcases List.mem_cons.1 hx with rfl | hx
            · exact List.mem_cons_of_mem _ (List.mem_cons_of_mem _ (List.mem_cons_of_mem _ (List.mem_cons_of_mem _ (List.mem_cons_of_mem _ (List.mem_cons_of_mem _ (List.mem_cons_of_mem _ (List.mem_cons_of_mem _ (List.mem_cons_of_mem _ (List.mem_cons_of_mem _ (List.mem_cons_self ..))))))))))
            rcases List.mem_cons.1 hx with rfl | hx
            · exact List.mem_cons_of_mem _ (List.mem_cons_of_mem _ (List.mem_cons_of_mem _ (List.mem_cons_of_mem _ (List.mem_cons_of_mem _ (List.mem_cons_of_mem _ (List.mem_cons_of_mem _ (List.mem_cons_of_mem _ (List.mem_cons_of_mem _ (List.mem_cons_of_mem _ (List.mem_cons_of_mem _ (List.mem_cons_self ..)))))))))))
            rcases List.mem_cons.1 hx with rfl | hx
            · exact List.mem_cons_of_mem _ (List.mem_cons_of_mem _ (List.mem_cons_of_mem _ (List.mem_cons_of_mem _ (List.mem_cons_of_mem _ (List.mem_cons_of_mem _ (List.mem_cons_of_mem _ (List.mem_cons_of_mem _ (List.mem_cons_of_mem _ (List.mem_cons_of_mem _ (List.mem_cons_of_mem _ (List.mem_cons_of_mem _ (List.mem_cons_self ..))))))))))))
            rcases List.mem_cons.1 hx with rfl | hx
            · exact List.mem_cons_of_mem _ (List.mem_cons_of_mem _ (List.mem_cons_of_mem _ (List.mem_cons_of_mem _ (List.mem_cons_of_mem _ (List.mem_cons_of_mem _ (List.mem_cons_of_mem _ (List.mem_cons_of_mem _ (List.mem_cons_of_mem _ (List.mem_cons_of_mem _ (List.mem_cons_of_mem _ (List.mem_cons_of_mem _ (List.mem_cons_of_mem _ (List.mem_cons_self ..)))))))))))))
            rcases List.mem_cons.1 hx with rfl | hx
            · exact List.mem_cons_of_mem _ (List.mem_cons_of_mem _ (List.mem_cons_of_mem _ (List.mem_cons_of_mem _ (List.mem_cons_of_mem _ (List.mem_cons_of_mem _ (List.mem_cons_of_mem _ (List.mem_cons_of_mem _ (List.mem_cons_of_mem _ (List.mem_cons_of_mem _ (List.mem_cons_of_mem _ (List.mem_cons_of_mem _ (List.mem_cons_of_mem _ (List.mem_cons_of_mem _ (List.mem_cons_self ..))))))))))))))
            rcases List.mem_cons.1 hx with rfl | hx
            · exact List.mem_cons_of_mem _ (List.mem_cons_of_mem _ (List.mem_cons_of_mem _ (List.mem_cons_of_mem _ (List.mem_cons_of_mem _ (List.mem_cons_of_mem _ (List.mem_cons_of_mem _ (List.mem_cons_of_mem _ (List.mem_cons_of_mem _ (List.mem_cons_of_mem _ (List.mem_cons_of_mem _ (List.mem_cons_of_mem _ (List.mem_cons_of_mem _ (List.mem_cons_of_mem _ (List.mem_cons_of_mem _ (List.mem_cons_self ..)))))))))))))))
            rcases List.mem_cons.1 hx with rfl | hx
            · exact List.mem_cons_of_mem _ (List.mem_cons_of_mem _ (List.mem_cons_of_mem _ (List.mem_cons_of_mem _ (List.mem_cons_of_mem _ (List.mem_cons_of_mem _ (List.mem_cons_of_mem _ (List.mem_cons_of_mem _ (List.mem_cons_of_mem _ (List.mem_cons_of_mem _ (List.mem_cons_of_mem _ (List.mem_cons_of_mem _ (List.mem_cons_of_mem _ (List.mem_cons_of_mem _ (List.mem_cons_of_mem _ (List.mem_cons_of_mem _ (List.mem_cons_self ..))))))))))))))))
            rcases List.mem_cons.1 hx with rfl | hx
            · exact List.mem_cons_of_mem _ (List.mem_cons_of_mem _ (List.mem_cons_of_mem _ (List.mem_cons_of_mem _ (List.mem_cons_of_mem _ (List.mem_cons_of_mem _ (List.mem_cons_of_mem _ (List.mem_cons_of_mem _ (List.mem_cons_of_mem _ (List.mem_cons_of_mem _ (List.mem_cons_of_mem _ (List.mem_cons_of_mem _ (List.mem_cons_of_mem _ (List.mem_cons_of_mem _ (List.mem_cons_of_mem _ (List.mem_cons_of_mem _ (List.mem_cons_of_mem _ (List.mem_cons_self ..)))))))))))))))))
            rcases List.mem_cons.1 hx with rfl | hx
            · exact List.mem_cons_of_mem _ (List.mem_cons_of_mem _ (List.mem_cons_of_mem _ (List.mem_cons_of_mem _ (List.mem_cons_of_mem _ (List.mem_cons_of_mem _ (List.mem_cons_of_mem _ (List.mem_cons_of_mem _ (List.mem_cons_of_mem _ (List.mem_cons_of_mem _ (List.mem_cons_of_mem _ (List.mem_cons_of_mem _ (List.mem_cons_of_mem _ (List.mem_cons_of_mem _ (List.mem_cons_of_mem _ (List.mem_cons_of_mem _ (List.mem_cons_of_mem _ (List.mem_cons_of_mem _ (List.mem_cons_self ..))))))))))))))))))
            cases hx
          clear hk
          have hk := hk2
          clear hk2
          refine wp_seq_k fun K5 hK5 => ?_
          refine wp_region_lit ?_
          refine list_k rfl rfl hk (by decide) (by repeat' (first | exact far_nil _ | refine far_cons (by decide) ?_)) (v := sv3) (do_move rfl (hk.at (List.mem_cons_self ..))) ?_
          clear hk; intro a hk
          refine list_k rfl rfl hk (by decide) (by repeat' (first | exact far_nil _ | refine far_cons (by decide) ?_)) (v := .int .u64 ((l + 1 : Nat) : Int)) (do_move rfl (hk.at (List.mem_cons_of_mem _ (List.mem_cons_of_mem _ (List.mem_cons_of_mem _ (List.mem_cons_self ..)))))) ?_
          clear hk; intro a hk
          refine list_k rfl rfl hk (by decide) (by repeat' (first | exact far_nil _ | refine far_cons (by decide) ?_)) (v := .int .i64 ((m : Nat) : Int)) (do_move rfl (hk.at (List.mem_cons_of_mem _ (List.mem_cons_of_mem _ (List.mem_cons_of_mem _ (List.mem_cons_self ..)))))) ?_
          clear hk; intro a hk
          refine wp_call rfl (do_call3 rfl (hk.at (List.mem_cons_of_mem _ (List.mem_cons_of_mem _ (List.mem_cons_self ..)))) (hk.at (List.mem_cons_of_mem _ (List.mem_cons_self ..))) (hk.at (List.mem_cons_self ..)) (ent3_a64 _ _ _)) (appv64_ok base _ _ (l + 1) m _ HO (Nat.le_trans hbase hb18.size) (by omega) hm1 hm2 (by simp; omega)) ?_
          rintro e w19 ⟨sv4, rfl, HOn, gg⟩
          replace BK := BK.grown gg (own_ne HO BK (by decide))
          replace B5 := B5.grown gg (own_ne HO B5 (by decide))
          replace B7 := B7.grown gg (own_ne HO B7 (by decide))
          replace B8 := B8.grown gg (own_ne HO B8 (by decide))
          replace B10 := B10.grown gg (own_ne HO B10 (by decide))
          replace B12 := B12.grown gg (own_ne HO B12 (by decide))
          replace B15 := B15.grown gg (own_ne HO B15 (by decide))
          have hb19 := hb18.grown gg (Nat.le_trans hbase hb18.size) (fun j hj => (HO.lt j hj).1)
          clear gg HO hb18 
          have HO := HOn
          clear HOn
          refine ⟨_, rfl, ?_⟩
          refine keep_k (v := sv4) hk (by decide) (by repeat' (first | exact far_nil _ | refine far_cons (by decide) ?_)) ?_
          clear hk; intro a hk
          have hk2 : Keeps 144 ([(131, sv4), (130, .int .i64 ((m : Nat) : Int)), (129, .int .u64 ((l + 1 : Nat) : Int)), (128, sv3), (20, .int .i64 ((m : Nat) : Int)), (19, .int .u64 ((l + 1 : Nat) : Int)), (18, .int .i64 ((l : Nat) : Int)), (12, .pointer (some ⟨q12, 0, none⟩)), (11, .int .u32 ((tOf y : Nat) : Int)), (10, .pointer (some ⟨q10, 0, none⟩)), (9, .int .i64 ((j + 1 : Nat) : Int)), (8, .pointer (some ⟨q8, 0, none⟩)), (7, .pointer (some ⟨q7, 0, none⟩)), (6, .int .u32 ((tOf x : Nat) : Int)), (5, .pointer (some ⟨q5, 0, none⟩)), (1, .slice (some ⟨gk, 0, none⟩) n cap)]) a := by
            refine ⟨hk.1, hk.2.1, fun x hx => hk.2.2 x ?_⟩
            rcases List.mem_cons.1 hx with rfl | hx
            · exact List.mem_cons_self ..
            rcases List.mem_cons.1 hx with rfl | hx
            · exact List.mem_cons_of_mem _ (List.mem_cons_self ..)
            rcases List.mem_cons.1 hx with rfl | hx
            · exact List.mem_cons_of_mem _ (List.mem_cons_of_mem _ (List.mem_cons_self ..))
            rcases List.mem_cons.1 hx with rfl | hx
            · exact List.mem_cons_of_mem _ (List.mem_cons_of_mem _ (List.mem_cons_of_mem _ (List.mem_cons_self ..)))
            rcases List.mem_cons.1 hx with rfl | hx
            · exact List.mem_cons_of_mem _ (List.mem_cons_of_mem _ (List.mem_cons_of_mem _ (List.mem_cons_of_mem _ (List.mem_cons_of_mem _ (List.mem_cons_self ..)))))
            rcases List.mem_cons.1 hx with rfl | hx
            · exact List.mem_cons_of_mem _ (List.mem_cons_of_mem _ (List.mem_cons_of_mem _ (List.mem_cons_of_mem _ (List.mem_cons_of_mem _ (List.mem_cons_of_mem _ (List.mem_cons_self ..))))))
            rcases List.mem_cons.1 hx with rfl | hx
            · exact List.mem_cons_of_mem _ (List.mem_cons_of_mem _ (List.mem_cons_of_mem _ (List.mem_cons_of_mem _ (List.mem_cons_of_mem _ (List.mem_cons_of_mem _ (List.mem_cons_of_mem _ (List.mem_cons_self ..)))))))
            rcases List.mem_cons.1 hx with rfl | hx
            · exact List.mem_cons_of_mem _ (List.mem_cons_of_mem _ (List.mem_cons_of_mem _ (List.mem_cons_of_mem _ (List.mem_cons_of_mem _ (List.mem_cons_of_mem _ (List.mem_cons_of_mem _ (List.mem_cons_of_mem _ (List.mem_cons_self ..))))))))
            rcases List.mem_cons.1 hx with rfl | hx
            · exact List.mem_cons_of_mem _ (List.mem_cons_of_mem _ (List.mem_cons_of_mem _ (List.mem_cons_of_mem _ (List.mem_cons_of_mem _ (List.mem_cons_of_mem _ (List.mem_cons_of_mem _ (List.mem_cons_of_mem _ (List.mem_cons_of_mem _ (List.mem_cons_self ..)))))))))
            rcases List.mem_cons.1 hx with rfl | hx
            · exact List.mem_cons_of_mem _ (List.mem_cons_of_mem _ (List.mem_cons_of_mem _ (List.mem_cons_of_mem _ (List.mem_cons_of_mem _ (List.mem_cons_of_mem _ (List.mem_cons_of_mem _ (List.mem_cons_of_mem _ (List.mem_cons_of_mem _ (List.mem_cons_of_mem _ (List.mem_cons_self ..))))))))))
            rcases List.mem_cons.1 hx with rfl | hx
            · exact List.mem_cons_of_mem _ (List.mem_cons_of_mem _ (List.mem_cons_of_mem _ (List.mem_cons_of_mem _ (List.mem_cons_of_mem _ (List.mem_cons_of_mem _ (List.mem_cons_of_mem _ (List.mem_cons_of_mem _ (List.mem_cons_of_mem _ (List.mem_cons_of_mem _ (List.mem_cons_of_mem _ (List.mem_cons_self ..)))))))))))
            rcases List.mem_cons.1 hx with rfl | hx
            · exact List.mem_cons_of_mem _ (List.mem_cons_of_mem _ (List.mem_cons_of_mem _ (List.mem_cons_of_mem _ (List.mem_cons_of_mem _ (List.mem_cons_of_mem _ (List.mem_cons_of_mem _ (List.mem_cons_of_mem _ (List.mem_cons_of_mem _ (List.mem_cons_of_mem _ (List.mem_cons_of_mem _ (List.mem_cons_of_mem _ (List.mem_cons_self ..))))))))))))
            rcases List.mem_cons.1 hx with rfl | hx
            · exact List.mem_cons_of_mem _ (List.mem_cons_of_mem _ (List.mem_cons_of_mem _ (List.mem_cons_of_mem _ (List.mem_cons_of_mem _ (List.mem_cons_of_mem _ (List.mem_cons_of_mem _ (List.mem_cons_of_mem _ (List.mem_cons_of_mem _ (List.mem_cons_of_mem _ (List.mem_cons_of_mem _ (List.mem_cons_of_mem _ (List.mem_cons_of_mem _ (List.mem_cons_self ..)))))))))))))
            rcases List.mem_cons.1 hx with rfl | hx
            · exact List.mem_cons_of_mem _ (List.mem_cons_of_mem _ (List.mem_cons_of_mem _ (List.mem_cons_of_mem _ (List.mem_cons_of_mem _ (List.mem_cons_of_mem _ (List.mem_cons_of_mem _ (List.mem_cons_of_mem _ (List.mem_cons_of_mem _ (List.mem_cons_of_mem _ (List.mem_cons_of_mem _ (List.mem_cons_of_mem _ (List.mem_cons_of_mem _ (List.mem_cons_of_mem _ (List.mem_cons_self ..))))))))))))))
            rcases List.mem_cons.1 hx with rfl | hx
            · exact List.mem_cons_of_mem _ (List.mem_cons_of_mem _ (List.mem_cons_of_mem _ (List.mem_cons_of_mem _ (List.mem_cons_of_mem _ (List.mem_cons_of_mem _ (List.mem_cons_of_mem _ (List.mem_cons_of_mem _ (List.mem_cons_of_mem _ (List.mem_cons_of_mem _ (List.mem_cons_of_mem _ (List.mem_cons_of_mem _ (List.mem_cons_of_mem _ (List.mem_cons_of_mem _ (List.mem_cons_of_mem _ (List.mem_cons_self ..)))))))))))))))
            rcases List.mem_cons.1 hx with rfl | hx
            · exact List.mem_cons_of_mem _ (List.mem_cons_of_mem _ (List.mem_cons_of_mem _ (List.mem_cons_of_mem _ (List.mem_cons_of_mem _ (List.mem_cons_of_mem _ (List.mem_cons_of_mem _ (List.mem_cons_of_mem _ (List.mem_cons_of_mem _ (List.mem_cons_of_mem _ (List.mem_cons_of_mem _ (List.mem_cons_of_mem _ (List.mem_cons_of_mem _ (List.mem_cons_of_mem _ (List.mem_cons_of_mem _ (List.mem_cons_of_mem _ (List.mem_cons_self ..))))))))))))))))
            cases hx
          clear hk
          have hk := hk2
          clear hk2
          refine list_k rfl rfl hk (by decide) (by repeat' (first | exact far_nil _ | refine far_cons (by decide) ?_)) (v := sv4) (do_assign rfl (hk.at (List.mem_cons_self ..))) ?_
          clear hk; intro a hk
          refine hK5 _ _ ?_
          clear hK5
          have hk2 : Keeps 144 ([(0, sv4), (18, .int .i64 ((l : Nat) : Int)), (12, .pointer (some ⟨q12, 0, none⟩)), (11, .int .u32 ((tOf y : Nat) : Int)), (10, .pointer (some ⟨q10, 0, none⟩)), (9, .int .i64 ((j + 1 : Nat) : Int)), (8, .pointer (some ⟨q8, 0, none⟩)), (7, .pointer (some ⟨q7, 0, none⟩)), (6, .int .u32 ((tOf x : Nat) : Int)), (5, .pointer (some ⟨q5, 0, none⟩)), (1, .slice (some ⟨gk, 0, none⟩) n cap)]) a := by
            refine ⟨hk.1, hk.2.1, fun x hx => hk.2.2 x ?_⟩
            rcases List.mem_cons.1 hx with rfl | hx
            · exact List.mem_cons_self ..
            rcases List.mem_cons.1 hx with rfl | hx
            · exact List.mem_cons_of_mem _ (List.mem_cons_of_mem _ (List.mem_cons_of_mem _ (List.mem_cons_of_mem _ (List.mem_cons_of_mem _ (List.mem_cons_of_mem _ (List.mem_cons_of_mem _ (List.mem_cons_self ..)))))))
            rcases List.mem_cons.1 hx with rfl | hx
            · exact List.mem_cons_of_mem _ (List.mem_cons_of_mem _ (List.mem_cons_of_mem _ (List.mem_cons_of_mem _ (List.mem_cons_of_mem _ (List.mem_cons_of_mem _ (List.mem_cons_of_mem _ (List.mem_cons_of_mem _ (List.mem_cons_self ..))))))))
            rcases List.mem_cons.1 hx with rfl | hx
            · exact List.mem_cons_of_mem _ (List.mem_cons_of_mem _ (List.mem_cons_of_mem _ (List.mem_cons_of_mem _ (List.mem_cons_of_mem _ (List.mem_cons_of_mem _ (List.mem_cons_of_mem _ (List.mem_cons_of_mem _ (List.mem_cons_of_mem _ (List.mem_cons_self ..)))))))))
            rcases List.mem_cons.1 hx with rfl | hx
            · exact List.mem_cons_of_mem _ (List.mem_cons_of_mem _ (List.mem_cons_of_mem _ (List.mem_cons_of_mem _ (List.mem_cons_of_mem _ (List.mem_cons_of_mem _ (List.mem_cons_of_mem _ (List.mem_cons_of_mem _ (List.mem_cons_of_mem _ (List.mem_cons_of_mem _ (List.mem_cons_self ..))))))))))
            rcases List.mem_cons.1 hx with rfl | hx
            · exact List.mem_cons_of_mem _ (List.mem_cons_of_mem _ (List.mem_cons_of_mem _ (List.mem_cons_of_mem _ (List.mem_cons_of_mem _ (List.mem_cons_of_mem _ (List.mem_cons_of_mem _ (List.mem_cons_of_mem _ (List.mem_cons_of_mem _ (List.mem_cons_of_mem _ (List.mem_cons_of_mem _ (List.mem_cons_self ..)))))))))))
            rcases List.mem_cons.1 hx with rfl | hx
            · exact List.mem_cons_of_mem _ (List.mem_cons_of_mem _ (List.mem_cons_of_mem _ (List.mem_cons_of_mem _ (List.mem_cons_of_mem _ (List.mem_cons_of_mem _ (List.mem_cons_of_mem _ (List.mem_cons_of_mem _ (List.mem_cons_of_mem _ (List.mem_cons_of_mem _ (List.mem_cons_of_mem _ (List.mem_cons_of_mem _ (List.mem_cons_self ..))))))))))))
            rcases List.mem_cons.1 hx with rfl | hx
            · exact List.mem_cons_of_mem _ (List.mem_cons_of_mem _ (List.mem_cons_of_mem _ (List.mem_cons_of_mem _ (List.mem_cons_of_mem _ (List.mem_cons_of_mem _ (List.mem_cons_of_mem _ (List.mem_cons_of_mem _ (List.mem_cons_of_mem _ (List.mem_cons_of_mem _ (List.mem_cons_of_mem _ (List.mem_cons_of_mem _ (List.mem_cons_of_mem _ (List.mem_cons_self ..)))))))))))))
            rcases List.mem_cons.1 hx with rfl | hx
            · exact List.mem_cons_of_mem _ (List.mem_cons_of_mem _ (List.mem_cons_of_mem _ (List.mem_cons_of_mem _ (List.mem_cons_of_mem _ (List.mem_cons_of_mem _ (List.mem_cons_of_mem _ (List.mem_cons_of_mem _ (List.mem_cons_of_mem _ (List.mem_cons_of_mem _ (List.mem_cons_of_mem _ (List.mem_cons_of_mem _ (List.mem_cons_of_mem _ (List.mem_cons_of_mem _ (List.mem_cons_self ..))))))))))))))
            rcases List.mem_cons.1 hx with rfl | hx
            · exact List.mem_cons_of_mem _ (List.mem_cons_of_mem _ (List.mem_cons_of_mem _ (List.mem_cons_of_mem _ (List.mem_cons_of_mem _ (List.mem_cons_of_mem _ (List.mem_cons_of_mem _ (List.mem_cons_of_mem _ (List.mem_cons_of_mem _ (List.mem_cons_of_mem _ (List.mem_cons_of_mem _ (List.mem_cons_of_mem _ (List.mem_cons_of_mem _ (List.mem_cons_of_mem _ (List.mem_cons_of_mem _ (List.mem_cons_self ..)))))))))))))))
            rcases List.mem_cons.1 hx with rfl | hx
            · exact List.mem_cons_of_mem _ (List.mem_cons_of_mem _ (List.mem_cons_of_mem _ (List.mem_cons_of_mem _ (List.mem_cons_of_mem _ (List.mem_cons_of_mem _ (List.mem_cons_of_mem _ (List.mem_cons_of_mem _ (List.mem_cons_of_mem _ (List.mem_cons_of_mem _ (List.mem_cons_of_mem _ (List.mem_cons_of_mem _ (List.mem_cons_of_mem _ (List.mem_cons_of_mem _ (List.mem_cons_of_mem _ (List.mem_cons_of_mem _ (List.mem_cons_self ..))))))))))))))))
            cases hx
          clear hk
          have hk := hk2
          clear hk2
          refine wp_seq_k fun K5 hK5 => ?_
          refine wp_region_lit ?_
          refine list_k rfl rfl hk (by decide) (by repeat' (first | exact far_nil _ | refine far_cons (by decide) ?_)) (v := .int .i64 ((j + 1 : Nat) : Int)) (do_move rfl (hk.at (List.mem_cons_of_mem _ (List.mem_cons_of_mem _ (List.mem_cons_of_mem _ (List.mem_cons_of_mem _ (List.mem_cons_of_mem _ (List.mem_cons_self ..)))))))) ?_
          clear hk; intro a hk
          refine list_k rfl rfl hk (by decide) (by repeat' (first | exact far_nil _ | refine far_cons (by decide) ?_)) (v := .int .i64 ((l : Nat) : Int)) (do_move rfl (hk.at (List.mem_cons_of_mem _ (List.mem_cons_of_mem _ (List.mem_cons_self ..))))) ?_
          clear hk; intro a hk
          refine list_k rfl rfl hk (by decide) (by repeat' (first | exact far_nil _ | refine far_cons (by decide) ?_)) (v := .int .i64 ((j + 1 + l : Nat) : Int)) ((do_addN rfl Try.underlying3 (hk.at (List.mem_cons_of_mem _ (List.mem_cons_self ..))) (hk.at (List.mem_cons_self ..)) (by rw [IntKind.wrap_i64]; omega))) ?_
          clear hk; intro a hk
          have hk2 : Keeps 144 ([(134, .int .i64 ((j + 1 + l : Nat) : Int)), (133, .int .i64 ((l : Nat) : Int)), (132, .int .i64 ((j + 1 : Nat) : Int)), (0, sv4), (18, .int .i64 ((l : Nat) : Int)), (12, .pointer (some ⟨q12, 0, none⟩)), (11, .int .u32 ((tOf y : Nat) : Int)), (10, .pointer (some ⟨q10, 0, none⟩)), (8, .pointer (some ⟨q8, 0, none⟩)), (7, .pointer (some ⟨q7, 0, none⟩)), (6, .int .u32 ((tOf x : Nat) : Int)), (5, .pointer (some ⟨q5, 0, none⟩)), (1, .slice (some ⟨gk, 0, none⟩) n cap)]) a := by
            refine ⟨hk.1, hk.2.1, fun x hx => hk.2.2 x ?_⟩
            rcases List.mem_cons.1 hx with rfl | hx
            · exact List.mem_cons_self ..
            rcases List.mem_cons.1 hx with rfl | hx
            · exact List.mem_cons_of_mem _ (List.mem_cons_self ..)
            rcases List.mem_cons.1 hx with rfl | hx
            · exact List.mem_cons_of_mem _ (List.mem_cons_of_mem _ (List.mem_cons_self ..))
            rcases List.mem_cons.1 hx with rfl | hx
            · exact List.mem_cons_of_mem _ (List.mem_cons_of_mem _ (List.mem_cons_of_mem _ (List.mem_cons_self ..)))
            rcases List.mem_cons.1 hx with rfl | hx
            · exact List.mem_cons_of_mem _ (List.mem_cons_of_mem _ (List.mem_cons_of_mem _ (List.mem_cons_of_mem _ (List.mem_cons_self ..))))
            rcases List.mem_cons.1 hx with rfl | hx
            · exact List.mem_cons_of_mem _ (List.mem_cons_of_mem _ (List.mem_cons_of_mem _ (List.mem_cons_of_mem _ (List.mem_cons_of_mem _ (List.mem_cons_self ..)))))
            rcases List.mem_cons.1 hx with rfl | hx
            · exact List.mem_cons_of_mem _ (List.mem_cons_of_mem _ (List.mem_cons_of_mem _ (List.mem_cons_of_mem _ (List.mem_cons_of_mem _ (List.mem_cons_of_mem _ (List.mem_cons_self ..))))))
            rcases List.mem_cons.1 hx with rfl | hx
            · exact List.mem_cons_of_mem _ (List.mem_cons_of_mem _ (List.mem_cons_of_mem _ (List.mem_cons_of_mem _ (List.mem_cons_of_mem _ (List.mem_cons_of_mem _ (List.mem_cons_of_mem _ (List.mem_cons_self ..)))))))
            rcases List.mem_cons.1 hx with rfl | hx
            · exact List.mem_cons_of_mem _ (List.mem_cons_of_mem _ (List.mem_cons_of_mem _ (List.mem_cons_of_mem _ (List.mem_cons_of_mem _ (List.mem_cons_of_mem _ (List.mem_cons_of_mem _ (List.mem_cons_of_mem _ (List.mem_cons_of_mem _ (List.mem_cons_self ..)))))))))
            rcases List.mem_cons.1 hx with rfl | hx
            · exact List.mem_cons_of_mem _ (List.mem_cons_of_mem _ (List.mem_cons_of_mem _ (List.mem_cons_of_mem _ (List.mem_cons_of_mem _ (List.mem_cons_of_mem _ (List.mem_cons_of_mem _ (List.mem_cons_of_mem _ (List.mem_cons_of_mem _ (List.mem_cons_of_mem _ (List.mem_cons_self ..))))))))))
            rcases List.mem_cons.1 hx with rfl | hx
            · exact List.mem_cons_of_mem _ (List.mem_cons_of_mem _ (List.mem_cons_of_mem _ (List.mem_cons_of_mem _ (List.mem_cons_of_mem _ (List.mem_cons_of_mem _ (List.mem_cons_of_mem _ (List.mem_cons_of_mem _ (List.mem_cons_of_mem _ (List.mem_cons_of_mem _ (List.mem_cons_of_mem _ (List.mem_cons_self ..)))))))))))
            rcases List.mem_cons.1 hx with rfl | hx
            · exact List.mem_cons_of_mem _ (List.mem_cons_of_mem _ (List.mem_cons_of_mem _ (List.mem_cons_of_mem _ (List.mem_cons_of_mem _ (List.mem_cons_of_mem _ (List.mem_cons_of_mem _ (List.mem_cons_of_mem _ (List.mem_cons_of_mem _ (List.mem_cons_of_mem _ (List.mem_cons_of_mem _ (List.mem_cons_of_mem _ (List.mem_cons_self ..))))))))))))
            rcases List.mem_cons.1 hx with rfl | hx
            · exact List.mem_cons_of_mem _ (List.mem_cons_of_mem _ (List.mem_cons_of_mem _ (List.mem_cons_of_mem _ (List.mem_cons_of_mem _ (List.mem_cons_of_mem _ (List.mem_cons_of_mem _ (List.mem_cons_of_mem _ (List.mem_cons_of_mem _ (List.mem_cons_of_mem _ (List.mem_cons_of_mem _ (List.mem_cons_of_mem _ (List.mem_cons_of_mem _ (List.mem_cons_self ..)))))))))))))
            cases hx
          clear hk
          have hk := hk2
          clear hk2
          refine list_k rfl rfl hk (by decide) (by repeat' (first | exact far_nil _ | refine far_cons (by decide) ?_)) (v := .int .i64 ((j + 1 + l : Nat) : Int)) (do_assign rfl (hk.at (List.mem_cons_self ..))) ?_
          clear hk; intro a hk
          refine hK5 _ _ ?_
          clear hK5
          have hk2 : Keeps 144 ([(9, .int .i64 ((j + 1 + l : Nat) : Int)), (0, sv4), (12, .pointer (some ⟨q12, 0, none⟩)), (11, .int .u32 ((tOf y : Nat) : Int)), (10, .pointer (some ⟨q10, 0, none⟩)), (8, .pointer (some ⟨q8, 0, none⟩)), (7, .pointer (some ⟨q7, 0, none⟩)), (6, .int .u32 ((tOf x : Nat) : Int)), (5, .pointer (some ⟨q5, 0, none⟩)), (1, .slice (some ⟨gk, 0, none⟩) n cap)]) a := by
            refine ⟨hk.1, hk.2.1, fun x hx => hk.2.2 x ?_⟩
            rcases List.mem_cons.1 hx with rfl | hx
            · exact List.mem_cons_self ..
            rcases List.mem_cons.1 hx with rfl | hx
            · exact List.mem_cons_of_mem _ (List.mem_cons_of_mem _ (List.mem_cons_of_mem _ (List.mem_cons_of_mem _ (List.mem_cons_self ..))))
            rcases List.mem_cons.1 hx with rfl | hx
            · exact List.mem_cons_of_mem _ (List.mem_cons_of_mem _ (List.mem_cons_of_mem _ (List.mem_cons_of_mem _ (List.mem_cons_of_mem _ (List.mem_cons_of_mem _ (List.mem_cons_self ..))))))
            rcases List.mem_cons.1 hx with rfl | hx
            · exact List.mem_cons_of_mem _ (List.mem_cons_of_mem _ (List.mem_cons_of_mem _ (List.mem_cons_of_mem _ (List.mem_cons_of_mem _ (List.mem_cons_of_mem _ (List.mem_cons_of_mem _ (List.mem_cons_self ..)))))))
            rcases List.mem_cons.1 hx with rfl | hx
            · exact List.mem_cons_of_mem _ (List.mem_cons_of_mem _ (List.mem_cons_of_mem _ (List.mem_cons_of_mem _ (List.mem_cons_of_mem _ (List.mem_cons_of_mem _ (List.mem_cons_of_mem _ (List.mem_cons_of_mem _ (List.mem_cons_self ..))))))))
            rcases List.mem_cons.1 hx with rfl | hx
            · exact List.mem_cons_of_mem _ (List.mem_cons_of_mem _ (List.mem_cons_of_mem _ (List.mem_cons_of_mem _ (List.mem_cons_of_mem _ (List.mem_cons_of_mem _ (List.mem_cons_of_mem _ (List.mem_cons_of_mem _ (List.mem_cons_of_mem _ (List.mem_cons_self ..)))))))))
            rcases List.mem_cons.1 hx with rfl | hx
            · exact List.mem_cons_of_mem _ (List.mem_cons_of_mem _ (List.mem_cons_of_mem _ (List.mem_cons_of_mem _ (List.mem_cons_of_mem _ (List.mem_cons_of_mem _ (List.mem_cons_of_mem _ (List.mem_cons_of_mem _ (List.mem_cons_of_mem _ (List.mem_cons_of_mem _ (List.mem_cons_self ..))))))))))
            rcases List.mem_cons.1 hx with rfl | hx
            · exact List.mem_cons_of_mem _ (List.mem_cons_of_mem _ (List.mem_cons_of_mem _ (List.mem_cons_of_mem _ (List.mem_cons_of_mem _ (List.mem_cons_of_mem _ (List.mem_cons_of_mem _ (List.mem_cons_of_mem _ (List.mem_cons_of_mem _ (List.mem_cons_of_mem _ (List.mem_cons_of_mem _ (List.mem_cons_self ..)))))))))))
            rcases List.mem_cons.1 hx with rfl | hx
            · exact List.mem_cons_of_mem _ (List.mem_cons_of_mem _ (List.mem_cons_of_mem _ (List.mem_cons_of_mem _ (List.mem_cons_of_mem _ (List.mem_cons_of_mem _ (List.mem_cons_of_mem _ (List.mem_cons_of_mem _ (List.mem_cons_of_mem _ (List.mem_cons_of_mem _ (List.mem_cons_of_mem _ (List.mem_cons_of_mem _ (List.mem_cons_self ..))))))))))))
            rcases List.mem_cons.1 hx with rfl | hx
            · exact List.mem_cons_of_mem _ (List.mem_cons_of_mem _ (List.mem_cons_of_mem _ (List.mem_cons_of_mem _ (List.mem_cons_of_mem _ (List.mem_cons_of_mem _ (List.mem_cons_of_mem _ (List.mem_cons_of_mem _ (List.mem_cons_of_mem _ (List.mem_cons_of_mem _ (List.mem_cons_of_mem _ (List.mem_cons_of_mem _ (List.mem_cons_of_mem _ (List.mem_cons_self ..)))))))))))))
            cases hx
          clear hk
          have hk := hk2
          clear hk2
          have hz : (ss.getD (j + 1 + l) []).length = 20 := h20.at (by omega)
          have Lz : (bvs (ss.getD (j + 1 + l) [])).length = 20 := by rw [bvs_length, hz]
          have hmz := flatK_at' h20 (j + 1 + l) (by omega) more
          refine wp_seq_k fun K5 hK5 => ?_
          refine wp_region_lit ?_
          refine list_k rfl rfl hk (by decide) (by repeat' (first | exact far_nil _ | refine far_cons (by decide) ?_)) (v := .slice (some ⟨gk, 0, none⟩) n cap) (do_move rfl (hk.at (List.mem_cons_of_mem _ (List.mem_cons_of_mem _ (List.mem_cons_of_mem _ (List.mem_cons_of_mem _ (List.mem_cons_of_mem _ (List.mem_cons_of_mem _ (List.mem_cons_of_mem _ (List.mem_cons_of_mem _ (List.mem_cons_of_mem _ (List.mem_cons_self ..)))))))))))) ?_
          clear hk; intro a hk
          refine list_k rfl rfl hk (by decide) (by repeat' (first | exact far_nil _ | refine far_cons (by decide) ?_)) (v := .int .i64 ((j + 1 + l : Nat) : Int)) (do_move rfl (hk.at (List.mem_cons_of_mem _ (List.mem_cons_self ..)))) ?_
          clear hk; intro a hk
          refine list_k rfl rfl hk (by decide) (by repeat' (first | exact far_nil _ | refine far_cons (by decide) ?_)) (v := .pointer (some ⟨gk, 0 + (j + 1 + l) * 20, none⟩)) (do_ixW rfl Try.underlying70 (by kernel_rfl) (hk.at (List.mem_cons_of_mem _ (List.mem_cons_self ..))) (j + 1 + l) (hk.at (List.mem_cons_self ..)) (by omega)) ?_
          clear hk; intro a hk
          refine list_k rfl rfl hk (by decide) (by repeat' (first | exact far_nil _ | refine far_cons (by decide) ?_)) (v := .agg (bvs (ss.getD (j + 1 + l) [])).toArray) (do_ldP ksArr rfl (hk.at (List.mem_cons_self ..)) BK (by rw [Nat.zero_add]; exact hmz) Lz) ?_
          clear hk; intro a hk
          refine wp_store_blk ksArr hb19 rfl rfl (hk.at (List.mem_cons_of_mem _ (List.mem_cons_of_mem _ (List.mem_cons_of_mem _ (List.mem_cons_of_mem _ (List.mem_cons_of_mem _ (List.mem_cons_of_mem _ (List.mem_cons_of_mem _ (List.mem_cons_of_mem _ (List.mem_cons_self ..)))))))))) (cs := bvs (ss.getD (j + 1 + l) [])) (hk.at (List.mem_cons_self ..)) B10 hBq10 Ly Lz (bvs_one _) ?_
          intro w20 B10n gg ss hb20
          clear ss
          replace BK := BK.grown gg (by intro e; have := Option.some.inj e; omega)
          replace HO := OwnB.keptG HO gg (.inr (fun e => own_ne HO B10 (by decide) e.symm))
          replace B5 := B5.grown gg (by intro e; have := Option.some.inj e; omega)
          replace B7 := B7.grown gg (by intro e; have := Option.some.inj e; omega)
          replace B8 := B8.grown gg (by intro e; have := Option.some.inj e; omega)
          replace B12 := B12.grown gg (by intro e; have := Option.some.inj e; omega)
          replace B15 := B15.grown gg (by intro e; have := Option.some.inj e; omega)
          clear gg B10
          have B10 := B10n
          clear B10n
          refine keep_0 hk ?_
          clear hk; intro a hk
          refine hK5 _ _ ?_
          clear hK5
          have hk2 : Keeps 144 ([(9, .int .i64 ((j + 1 + l : Nat) : Int)), (0, sv4), (12, .pointer (some ⟨q12, 0, none⟩)), (11, .int .u32 ((tOf y : Nat) : Int)), (10, .pointer (some ⟨q10, 0, none⟩)), (8, .pointer (some ⟨q8, 0, none⟩)), (7, .pointer (some ⟨q7, 0, none⟩)), (6, .int .u32 ((tOf x : Nat) : Int)), (5, .pointer (some ⟨q5, 0, none⟩)), (1, .slice (some ⟨gk, 0, none⟩) n cap)]) a := by
            refine ⟨hk.1, hk.2.1, fun x hx => hk.2.2 x ?_⟩
            rcases List.mem_cons.1 hx with rfl | hx
            · exact List.mem_cons_of_mem _ (List.mem_cons_of_mem _ (List.mem_cons_of_mem _ (List.mem_cons_of_mem _ (List.mem_cons_self ..))))
            rcases List.mem_cons.1 hx with rfl | hx
            · exact List.mem_cons_of_mem _ (List.mem_cons_of_mem _ (List.mem_cons_of_mem _ (List.mem_cons_of_mem _ (List.mem_cons_of_mem _ (List.mem_cons_self ..)))))
            rcases List.mem_cons.1 hx with rfl | hx
            · exact List.mem_cons_of_mem _ (List.mem_cons_of_mem _ (List.mem_cons_of_mem _ (List.mem_cons_of_mem _ (List.mem_cons_of_mem _ (List.mem_cons_of_mem _ (List.mem_cons_self ..))))))
            rcases List.mem_cons.1 hx with rfl | hx
            · exact List.mem_cons_of_mem _ (List.mem_cons_of_mem _ (List.mem_cons_of_mem _ (List.mem_cons_of_mem _ (List.mem_cons_of_mem _ (List.mem_cons_of_mem _ (List.mem_cons_of_mem _ (List.mem_cons_self ..)))))))
            rcases List.mem_cons.1 hx with rfl | hx
            · exact List.mem_cons_of_mem _ (List.mem_cons_of_mem _ (List.mem_cons_of_mem _ (List.mem_cons_of_mem _ (List.mem_cons_of_mem _ (List.mem_cons_of_mem _ (List.mem_cons_of_mem _ (List.mem_cons_of_mem _ (List.mem_cons_self ..))))))))
            rcases List.mem_cons.1 hx with rfl | hx
            · exact List.mem_cons_of_mem _ (List.mem_cons_of_mem _ (List.mem_cons_of_mem _ (List.mem_cons_of_mem _ (List.mem_cons_of_mem _ (List.mem_cons_of_mem _ (List.mem_cons_of_mem _ (List.mem_cons_of_mem _ (List.mem_cons_of_mem _ (List.mem_cons_self ..)))))))))
            rcases List.mem_cons.1 hx with rfl | hx
            · exact List.mem_cons_of_mem _ (List.mem_cons_of_mem _ (List.mem_cons_of_mem _ (List.mem_cons_of_mem _ (List.mem_cons_of_mem _ (List.mem_cons_of_mem _ (List.mem_cons_of_mem _ (List.mem_cons_of_mem _ (List.mem_cons_of_mem _ (List.mem_cons_of_mem _ (List.mem_cons_self ..))))))))))
            rcases List.mem_cons.1 hx with rfl | hx
            · exact List.mem_cons_of_mem _ (List.mem_cons_of_mem _ (List.mem_cons_of_mem _ (List.mem_cons_of_mem _ (List.mem_cons_of_mem _ (List.mem_cons_of_mem _ (List.mem_cons_of_mem _ (List.mem_cons_of_mem _ (List.mem_cons_of_mem _ (List.mem_cons_of_mem _ (List.mem_cons_of_mem _ (List.mem_cons_self ..)))))))))))
            rcases List.mem_cons.1 hx with rfl | hx
            · exact List.mem_cons_of_mem _ (List.mem_cons_of_mem _ (List.mem_cons_of_mem _ (List.mem_cons_of_mem _ (List.mem_cons_of_mem _ (List.mem_cons_of_mem _ (List.mem_cons_of_mem _ (List.mem_cons_of_mem _ (List.mem_cons_of_mem _ (List.mem_cons_of_mem _ (List.mem_cons_of_mem _ (List.mem_cons_of_mem _ (List.mem_cons_self ..))))))))))))
            rcases List.mem_cons.1 hx with rfl | hx
            · exact List.mem_cons_of_mem _ (List.mem_cons_of_mem _ (List.mem_cons_of_mem _ (List.mem_cons_of_mem _ (List.mem_cons_of_mem _ (List.mem_cons_of_mem _ (List.mem_cons_of_mem _ (List.mem_cons_of_mem _ (List.mem_cons_of_mem _ (List.mem_cons_of_mem _ (List.mem_cons_of_mem _ (List.mem_cons_of_mem _ (List.mem_cons_of_mem _ (List.mem_cons_self ..)))))))))))))
            cases hx
          clear hk
          have hk := hk2
          clear hk2
          refine wp_region_lit ?_
          refine list_k rfl rfl hk (by decide) (by repeat' (first | exact far_nil _ | refine far_cons (by decide) ?_)) (v := .agg (bvs (ss.getD (j + 1 + l) [])).toArray) (do_ldA ksArr rfl (hk.at (List.mem_cons_of_mem _ (List.mem_cons_of_mem _ (List.mem_cons_of_mem _ (List.mem_cons_of_mem _ (List.mem_cons_self ..)))))) B10 Lz) ?_
          clear hk; intro a hk
          refine wp_call rfl (do_call1  rfl (hk.at (List.mem_cons_self ..)) (ent1_pl _)) (payloadN_ok (ss.getD (j + 1 + l) []) _ hz) ?_
          rintro e w21 ⟨rfl, hbc⟩
          replace BK := BK.kept hbc
          replace HO := OwnB.kept HO hbc
          replace B5 := B5.kept hbc
          replace B7 := B7.kept hbc
          replace B8 := B8.kept hbc
          replace B10 := B10.kept hbc
          replace B12 := B12.kept hbc
          replace B15 := B15.kept hbc
          have hb21 := hb20.trans (hbc.mono (Nat.le_trans hbase hb20.size))
          clear hbc
          refine ⟨_, rfl, ?_⟩
          refine keep_k (v := .agg (uN (vOf (ss.getD (j + 1 + l) []))).toArray) hk (by decide) (by repeat' (first | exact far_nil _ | refine far_cons (by decide) ?_)) ?_
          clear hk; intro a hk
          refine wp_store_blk u128Arr hb21 rfl rfl (hk.at (List.mem_cons_of_mem _ (List.mem_cons_of_mem _ (List.mem_cons_of_mem _ (List.mem_cons_of_mem _ (List.mem_cons_self ..)))))) (cs := uN (vOf (ss.getD (j + 1 + l) []))) (hk.at (List.mem_cons_self ..)) B12 hBq12 rfl rfl (uN_one _) ?_
          intro w22 B12n gg ss hb22
          clear ss
          replace BK := BK.grown gg (by intro e; have := Option.some.inj e; omega)
          replace HO := OwnB.keptG HO gg (.inr (fun e => own_ne HO B12 (by decide) e.symm))
          replace B5 := B5.grown gg (by intro e; have := Option.some.inj e; omega)
          replace B7 := B7.grown gg (by intro e; have := Option.some.inj e; omega)
          replace B8 := B8.grown gg (by intro e; have := Option.some.inj e; omega)
          replace B10 := B10.grown gg (by intro e; have := Option.some.inj e; omega)
          replace B15 := B15.grown gg (by intro e; have := Option.some.inj e; omega)
          clear gg B12
          have B12 := B12n
          clear B12n
          refine keep_0 hk ?_
          clear hk; intro a hk
          have hk2 : Keeps 144 ([(9, .int .i64 ((j + 1 + l : Nat) : Int)), (0, sv4), (12, .pointer (some ⟨q12, 0, none⟩)), (11, .int .u32 ((tOf y : Nat) : Int)), (10, .pointer (some ⟨q10, 0, none⟩)), (8, .pointer (some ⟨q8, 0, none⟩)), (7, .pointer (some ⟨q7, 0, none⟩)), (6, .int .u32 ((tOf x : Nat) : Int)), (5, .pointer (some ⟨q5, 0, none⟩)), (1, .slice (some ⟨gk, 0, none⟩) n cap)]) a := by
            refine ⟨hk.1, hk.2.1, fun x hx => hk.2.2 x ?_⟩
            rcases List.mem_cons.1 hx with rfl | hx
            · exact List.mem_cons_of_mem _ (List.mem_cons_of_mem _ (List.mem_cons_self ..))
            rcases List.mem_cons.1 hx with rfl | hx
            · exact List.mem_cons_of_mem _ (List.mem_cons_of_mem _ (List.mem_cons_of_mem _ (List.mem_cons_self ..)))
            rcases List.mem_cons.1 hx with rfl | hx
            · exact List.mem_cons_of_mem _ (List.mem_cons_of_mem _ (List.mem_cons_of_mem _ (List.mem_cons_of_mem _ (List.mem_cons_self ..))))
            rcases List.mem_cons.1 hx with rfl | hx
            · exact List.mem_cons_of_mem _ (List.mem_cons_of_mem _ (List.mem_cons_of_mem _ (List.mem_cons_of_mem _ (List.mem_cons_of_mem _ (List.mem_cons_self ..)))))
            rcases List.mem_cons.1 hx with rfl | hx
            · exact List.mem_cons_of_mem _ (List.mem_cons_of_mem _ (List.mem_cons_of_mem _ (List.mem_cons_of_mem _ (List.mem_cons_of_mem _ (List.mem_cons_of_mem _ (List.mem_cons_self ..))))))
            rcases List.mem_cons.1 hx with rfl | hx
            · exact List.mem_cons_of_mem _ (List.mem_cons_of_mem _ (List.mem_cons_of_mem _ (List.mem_cons_of_mem _ (List.mem_cons_of_mem _ (List.mem_cons_of_mem _ (List.mem_cons_of_mem _ (List.mem_cons_self ..)))))))
            rcases List.mem_cons.1 hx with rfl | hx
            · exact List.mem_cons_of_mem _ (List.mem_cons_of_mem _ (List.mem_cons_of_mem _ (List.mem_cons_of_mem _ (List.mem_cons_of_mem _ (List.mem_cons_of_mem _ (List.mem_cons_of_mem _ (List.mem_cons_of_mem _ (List.mem_cons_self ..))))))))
            rcases List.mem_cons.1 hx with rfl | hx
            · exact List.mem_cons_of_mem _ (List.mem_cons_of_mem _ (List.mem_cons_of_mem _ (List.mem_cons_of_mem _ (List.mem_cons_of_mem _ (List.mem_cons_of_mem _ (List.mem_cons_of_mem _ (List.mem_cons_of_mem _ (List.mem_cons_of_mem _ (List.mem_cons_self ..)))))))))
            rcases List.mem_cons.1 hx with rfl | hx
            · exact List.mem_cons_of_mem _ (List.mem_cons_of_mem _ (List.mem_cons_of_mem _ (List.mem_cons_of_mem _ (List.mem_cons_of_mem _ (List.mem_cons_of_mem _ (List.mem_cons_of_mem _ (List.mem_cons_of_mem _ (List.mem_cons_of_mem _ (List.mem_cons_of_mem _ (List.mem_cons_self ..))))))))))
            rcases List.mem_cons.1 hx with rfl | hx
            · exact List.mem_cons_of_mem _ (List.mem_cons_of_mem _ (List.mem_cons_of_mem _ (List.mem_cons_of_mem _ (List.mem_cons_of_mem _ (List.mem_cons_of_mem _ (List.mem_cons_of_mem _ (List.mem_cons_of_mem _ (List.mem_cons_of_mem _ (List.mem_cons_of_mem _ (List.mem_cons_of_mem _ (List.mem_cons_self ..)))))))))))
            cases hx
          clear hk
          have hk := hk2
          clear hk2
          subst hye
          have hl3 : ∀ i, i < l → tOf (ss.getD (j + 1 + 1 + i) []) = tOf x ∧ vOf (ss.getD (j + 1 + 1 + i) []) = vOf x + 1 + 1 + i := by
            intro i hi
            have := hl2 i hi
            rw [getD_drop'] at this
            exact ⟨by rw [this.1, htt], by omega⟩
          have htz : tOf x = tOf (ss.getD (j + 1 + l) []) := by
            cases l with
            | zero => exact htt.symm
            | succ i =>
              have := hl3 i (by omega)
              rw [show j + 1 + (i + 1) = j + 1 + 1 + i by omega]
              exact this.1.symm
          rw [htz] at hk
          have hyl : (xs ++ [UInt8.ofNat (192 + m)] ++ be m (l + 1)).length ≤ 40 * (j + 1 + l + 1) := by
            simp [be_length]
            omega
          exact HEND _ _ (j + 1 + l) _ _ (by omega) (by omega) (hk.sub (fun x hx => by simp at hx ⊢; rcases hx with rfl | rfl | rfl | rfl | rfl | rfl | rfl | rfl | rfl <;> simp)) B12 B10 B5 B7 B8 BK HO hyl hb22 (enc_app (a := UInt8.ofNat (192 + m) :: be m (l + 1)) HE (fun b hb => by rw [List.cons_append]; exact enc_range (by omega) h20 hm1 hm2 hm3 ⟨htt, hdd⟩ hl3 hb) (by rw [List.append_assoc]; rfl))
  clear hK3 hK1
  refine wp_seq_k fun K4 hK4 => ?_
  refine wp_region_lit ?_
  refine list_k rfl rfl hk (by decide) (by repeat' (first | exact far_nil _ | refine far_cons (by decide) ?_)) (v := .slice (some ⟨gk, 0, none⟩) n cap) (do_move rfl (hk.at (List.mem_cons_self ..))) ?_
  clear hk; intro a hk
  refine wp_call rfl (do_call1 rfl (hk.at (List.mem_cons_self ..)) (ent1_is _)) (isSorted_ok ks gk n cap more _ _ hkn hn0 (by omega) hcap hk20 BK) ?_
  rintro e w1 ⟨bb, rfl, hbb, hbc⟩
  refine ⟨_, rfl, ?_⟩
  refine keep_k (v := .bool bb) hk (by decide) (by repeat' (first | exact far_nil _ | refine far_cons (by decide) ?_)) ?_
  clear hk; intro a hk
  refine list_k rfl rfl hk (by decide) (by repeat' (first | exact far_nil _ | refine far_cons (by decide) ?_)) (v := .bool (!bb)) (do_notB rfl Try.underlying4 (hk.at (List.mem_cons_self ..))) ?_
  clear hk; intro a hk
  replace BK := BK.kept hbc
  replace HO := OwnB.kept HO hbc
  have hG1 : w.grownBy w1 (some gk) := grown_below hbc _
  cases bb
  case true =>
    refine hK4 _ _ (wp_cond_false (hk.at (List.mem_cons_self ..)) ?_)
    clear hK4
    have e : ks = ss := sorted_unique hp.symm (hbb.1 rfl) hsrt
    rw [e] at BK
    exact wp_skip (HMEET _ _ (hk.sub (fun x hx => by simp at hx ⊢; rcases hx with rfl | rfl <;> simp)) BK HO hG1)
  case false =>
    refine hK4 _ _ (wp_cond_true (hk.at (List.mem_cons_self ..)) ?_)
    clear hK4
    have hk2 : Keeps 144 ([(1, .slice (some ⟨gk, 0, none⟩) n cap), (0, sv0)]) a := by
      refine ⟨hk.1, hk.2.1, fun x hx => hk.2.2 x ?_⟩
      rcases List.mem_cons.1 hx with rfl | hx
      · exact List.mem_cons_of_mem _ (List.mem_cons_of_mem _ (List.mem_cons_of_mem _ (List.mem_cons_self ..)))
      rcases List.mem_cons.1 hx with rfl | hx
      · exact List.mem_cons_of_mem _ (List.mem_cons_of_mem _ (List.mem_cons_of_mem _ (List.mem_cons_of_mem _ (List.mem_cons_self ..))))
      cases hx
    clear hk
    have hk := hk2
    clear hk2
    refine wp_region_lit ?_
    refine list_k rfl rfl hk (by decide) (by repeat' (first | exact far_nil _ | refine far_cons (by decide) ?_)) (v := .slice (some ⟨gk, 0, none⟩) n cap) (do_move rfl (hk.at (List.mem_cons_self ..))) ?_
    clear hk; intro a hk
    refine wp_call rfl (do_call1 rfl (hk.at (List.mem_cons_self ..)) (ent1_so _)) (ksort_ok ks gk n cap more _ _ hkn (by omega) hcap hk20 BK) ?_
    rintro e w2 ⟨rfl, js, p1, p2, p3, p4⟩
    refine ⟨_, rfl, ?_⟩
    refine keep_k (v := .tuple #[]) hk (by decide) (by repeat' (first | exact far_nil _ | refine far_cons (by decide) ?_)) ?_
    clear hk; intro a hk
    have e : js = ss := sorted_unique (p1.trans hp.symm) p2 hsrt
    rw [e] at p3
    exact HMEET _ _ (hk.sub (fun x hx => by simp at hx ⊢; rcases hx with rfl | rfl <;> simp)) p3 (OwnB.keptG HO p4 (.inr (fun e => own_ne HO BK (by decide) e.symm))) (grown_trans hG1 p4)
end Go.Proofs.Ytbacbgicfomkbaa
