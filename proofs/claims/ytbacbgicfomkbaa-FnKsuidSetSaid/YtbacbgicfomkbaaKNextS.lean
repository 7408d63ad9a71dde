/- Contract of CompressedSetIter.Next: at the end, and within a run. -/
import Derived.Test.YtbacbgicfomkbaaKNextL
namespace Go.Proofs.Ytbacbgicfomkbaa
open Go.RowKit
set_option linter.unusedVariables false
set_option linter.unusedSimpArgs false
theorem do_subM {P : Program} {a : Act} {w : World} {o : Oper} {x y : Operand} {t u : TypeId} {k : IntKind} {m n r : Nat} (ho : o.op = .binOp .sub t x y u) (hu : P.underlying t = some (.int k)) (hx : a.eval x = .int k (m : Int)) (hy : a.eval y = .int k (n : Int)) (hw : k.wrap ((m : Int) - n) = ((r : Nat) : Int)) : (execOp a.eval o).run P w = .ok (.value (.int k ((r : Nat) : Int))) w := by
  unfold execOp; simp only [ho, hx, hy]; go_simp
theorem do_fld79_0 {a : Act} {w : World} {o : Oper} {x : Operand} (ho : o.op = .fieldAddr 79 x 0) {g : Nat} (hx : a.eval x = .pointer (some ⟨g, 0, none⟩)) : (execOp a.eval o).run Try.prog w = .ok (.value (.pointer (some ⟨g, 0, none⟩))) w := by
  unfold execOp
  simp only [ho, hx]
  go_simp
theorem do_fld79_1 {a : Act} {w : World} {o : Oper} {x : Operand} (ho : o.op = .fieldAddr 79 x 1) {g : Nat} (hx : a.eval x = .pointer (some ⟨g, 0, none⟩)) : (execOp a.eval o).run Try.prog w = .ok (.value (.pointer (some ⟨g, 20, none⟩))) w := by
  unfold execOp
  simp only [ho, hx]
  go_simp
theorem do_fld79_2 {a : Act} {w : World} {o : Oper} {x : Operand} (ho : o.op = .fieldAddr 79 x 2) {g : Nat} (hx : a.eval x = .pointer (some ⟨g, 0, none⟩)) : (execOp a.eval o).run Try.prog w = .ok (.value (.pointer (some ⟨g, 21, none⟩))) w := by
  unfold execOp
  simp only [ho, hx]
  go_simp
theorem do_fld79_3 {a : Act} {w : World} {o : Oper} {x : Operand} (ho : o.op = .fieldAddr 79 x 3) {g : Nat} (hx : a.eval x = .pointer (some ⟨g, 0, none⟩)) : (execOp a.eval o).run Try.prog w = .ok (.value (.pointer (some ⟨g, 22, none⟩))) w := by
  unfold execOp
  simp only [ho, hx]
  go_simp
theorem do_fld79_4 {a : Act} {w : World} {o : Oper} {x : Operand} (ho : o.op = .fieldAddr 79 x 4) {g : Nat} (hx : a.eval x = .pointer (some ⟨g, 0, none⟩)) : (execOp a.eval o).run Try.prog w = .ok (.value (.pointer (some ⟨g, 23, none⟩))) w := by
  unfold execOp
  simp only [ho, hx]
  go_simp
theorem do_fld79_5 {a : Act} {w : World} {o : Oper} {x : Operand} (ho : o.op = .fieldAddr 79 x 5) {g : Nat} (hx : a.eval x = .pointer (some ⟨g, 0, none⟩)) : (execOp a.eval o).run Try.prog w = .ok (.value (.pointer (some ⟨g, 24, none⟩))) w := by
  unfold execOp
  simp only [ho, hx]
  go_simp
set_option maxRecDepth 100000 in
set_option maxHeartbeats 1000000 in
theorem next_run (gi off seq t v : Nat) (k : List UInt8) (sl : Value) (ty : TypeId) (w : World) (hk20 : k.length = 20) (BI : Blk w gi (itC (k) (sl) (off) (seq + 1) (t) (v)) ty) (ht : t < 4294967296) (hv : v + 1 < 340282366920938463463374607431768211456) (hs : seq + 1 < 18446744073709551616) :
    Calls Try.prog 47 #[.pointer (some ⟨gi, 0, none⟩)] w fun e w' => e = .returned (.bool true) ∧ Blk w' gi (itC (kid t (v + 1)) (sl) (off) (seq) (t) (v + 1)) ty ∧ w.grownBy w' (some gi) := by
  have hlt := BI.lt
  go_enter Try.func47, Try.ntmps47
  refine of_keeps 272 [(0, .pointer (some ⟨gi, 0, none⟩))] ⟨by kernel_rfl, rfl, fun x hx => by simp at hx; rcases hx with rfl; rfl⟩ fun a hk => ?_
  have hG : w.grownBy w (some gi) := World.grownBy.refl _ _
  refine wp_seq_k fun K0 hK0 => ?_
  refine wp_region_lit ?_
  refine list_k rfl rfl hk (by decide) (by repeat' (first | exact far_nil _ | refine far_cons (by decide) ?_)) (v := .bool false) (do_assign rfl rfl) ?_
  clear hk; intro a hk
  refine hK0 _ _ ?_
  clear hK0
  have hk2 : Keeps 272 ([(0, .pointer (some ⟨gi, 0, none⟩))]) a := by
    refine ⟨hk.1, hk.2.1, fun x hx => hk.2.2 x ?_⟩
    rcases List.mem_cons.1 hx with rfl | hx
    · exact mt mh
    cases hx
  clear hk
  have hk := hk2
  clear hk2
  refine wp_seq_k fun K1 hK1 => ?_
  refine wp_seq_k fun K2 hK2 => ?_
  refine wp_region_lit ?_
  refine list_k rfl rfl hk (by decide) (by repeat' (first | exact far_nil _ | refine far_cons (by decide) ?_)) (v := .pointer (some ⟨gi, 0, none⟩)) (do_move rfl (hk.at (mh))) ?_
  clear hk; intro a hk
  refine list_k rfl rfl hk (by decide) (by repeat' (first | exact far_nil _ | refine far_cons (by decide) ?_)) (v := .pointer (some ⟨gi, 0, none⟩)) (do_nilc rfl (hk.at (mh))) ?_
  clear hk; intro a hk
  refine list_k rfl rfl hk (by decide) (by repeat' (first | exact far_nil _ | refine far_cons (by decide) ?_)) (v := .pointer (some ⟨gi, 22, none⟩)) (do_fld79_3 rfl (hk.at (mh))) ?_
  clear hk; intro a hk
  refine list_k rfl rfl hk (by decide) (by repeat' (first | exact far_nil _ | refine far_cons (by decide) ?_)) (v := .int .u64 ((seq + 1 : Nat) : Int)) (do_ldB rfl Try.underlying30 rfl (hk.at (mh)) BI (itC_seq hk20)) ?_
  clear hk; intro a hk
  refine list_k rfl rfl hk (by decide) (by repeat' (first | exact far_nil _ | refine far_cons (by decide) ?_)) (v := .bool true) ((do_neT (n := 0) rfl Try.underlying30 (hk.at (mh)) rfl (by omega))) ?_
  clear hk; intro a hk
  refine hK2 _ _ (wp_cond_true (hk.at mh) ?_)
  clear hK2
  clear hK1
  have hk2 : Keeps 272 ([(0, .pointer (some ⟨gi, 0, none⟩))]) a := by
    refine ⟨hk.1, hk.2.1, fun x hx => hk.2.2 x ?_⟩
    rcases List.mem_cons.1 hx with rfl | hx
    · exact mt (mt (mt (mt (mt mh))))
    cases hx
  clear hk
  have hk := hk2
  clear hk2
  refine wp_seq_k fun K2 hK2 => ?_
  refine wp_region_lit ?_
  refine list_k rfl rfl hk (by decide) (by repeat' (first | exact far_nil _ | refine far_cons (by decide) ?_)) (v := .pointer (some ⟨gi, 0, none⟩)) (do_move rfl (hk.at (mh))) ?_
  clear hk; intro a hk
  refine list_k rfl rfl hk (by decide) (by repeat' (first | exact far_nil _ | refine far_cons (by decide) ?_)) (v := .pointer (some ⟨gi, 0, none⟩)) (do_nilc rfl (hk.at (mh))) ?_
  clear hk; intro a hk
  refine list_k rfl rfl hk (by decide) (by repeat' (first | exact far_nil _ | refine far_cons (by decide) ?_)) (v := .pointer (some ⟨gi, 24, none⟩)) (do_fld79_5 rfl (hk.at (mh))) ?_
  clear hk; intro a hk
  refine list_k rfl rfl hk (by decide) (by repeat' (first | exact far_nil _ | refine far_cons (by decide) ?_)) (v := .agg (uN (v)).toArray) (do_ldP u128Arr rfl (hk.at (mh)) BI (itC_v hk20) rfl) ?_
  clear hk; intro a hk
  refine wp_call rfl (do_call1 rfl (hk.at (mh)) (ent1_inc _)) (incrN_ok v _ hv) ?_
  rintro e w1 ⟨rfl, hbc⟩
  replace BI := BI.kept hbc
  replace hG := grown_trans hG (grown_below hbc _)
  clear hbc
  refine ⟨_, rfl, ?_⟩
  refine keep_k (v := .agg (uN (v + 1)).toArray) hk (by decide) (by repeat' (first | exact far_nil _ | refine far_cons (by decide) ?_)) ?_
  clear hk; intro a hk
  obtain ⟨q3, hq3⟩ : ∃ q, q = w1.heap.size := ⟨_, rfl⟩
  have hBq3 : w.heap.size ≤ q3 := by rw [hq3]; exact hG.size
  refine wp_alloc_blk u128Arr (Below.refl 0 w1) rfl rfl hq3.symm (Nat.zero_le _) ?_
  intro w2 B3 gg ss h0
  clear ss h0 hq3
  replace BI := BI.grown gg (by simp)
  replace hG := grown_trans hG (grown_none gg _)
  clear gg
  refine keep_k (v := .pointer (some ⟨q3, 0, none⟩)) hk (by decide) (by repeat' (first | exact far_nil _ | refine far_cons (by decide) ?_)) ?_
  clear hk; intro a hk
  refine wp_store_blk u128Arr (Below.refl 0 w2) rfl rfl (hk.at (mh)) (cs := uN (v + 1)) (hk.at (mt mh)) B3 (Nat.zero_le _) rfl rfl (uN_one _) ?_
  intro w3 B3n gg ss h0
  clear ss h0
  replace BI := BI.grown gg (by intro e; have := Option.some.inj e; omega)
  replace hG := grown_new hG gg hBq3
  clear gg B3
  have B3 := B3n
  clear B3n
  refine keep_0 hk ?_
  clear hk; intro a hk
  refine hK2 _ _ ?_
  clear hK2
  have hk2 : Keeps 272 ([(3, .pointer (some ⟨q3, 0, none⟩)), (0, .pointer (some ⟨gi, 0, none⟩))]) a := by
    refine ⟨hk.1, hk.2.1, fun x hx => hk.2.2 x ?_⟩
    rcases List.mem_cons.1 hx with rfl | hx
    · exact mh
    rcases List.mem_cons.1 hx with rfl | hx
    · exact mt (mt (mt (mt (mt (mt mh)))))
    cases hx
  clear hk
  have hk := hk2
  clear hk2
  refine wp_seq_k fun K2 hK2 => ?_
  refine region_plan2 (fun w' => Below w3.heap.size w3 w') [(0, 0), (1, 0), (2, 0), (3, 0), (4, 0), (5, 0), (6, 1), (7, 0), (8, 0), (9, 2)] rfl (by kernel_rfl) (by kernel_rfl) rfl (by intro c a d v w h; cases d <;> exact h) (fun _ _ h => h) ?_
  intro OPS w3d hpW hbd
  clear hpW
  refine plan_k rfl hk (by decide) (by repeat' (first | exact far_nil _ | refine far_cons (by decide) ?_)) (v := .pointer (some ⟨gi, 0, none⟩)) (fun o ho w' hS => do_move ho (hk.at (mt mh))) ?_
  clear hk; intro a hk
  refine plan_k rfl hk (by decide) (by repeat' (first | exact far_nil _ | refine far_cons (by decide) ?_)) (v := .agg (uN (v + 1)).toArray) (fun o ho w' hS => do_ldA u128Arr ho (hk.at (mt mh)) (B3.kept hS) rfl) ?_
  clear hk; intro a hk
  refine plan_k rfl hk (by decide) (by repeat' (first | exact far_nil _ | refine far_cons (by decide) ?_)) (v := .pointer (some ⟨gi, 0, none⟩)) (fun o ho w' hS => do_move ho (hk.at (mt (mt (mt mh))))) ?_
  clear hk; intro a hk
  refine plan_k rfl hk (by decide) (by repeat' (first | exact far_nil _ | refine far_cons (by decide) ?_)) (v := .pointer (some ⟨gi, 0, none⟩)) (fun o ho w' hS => do_nilc ho (hk.at (mh))) ?_
  clear hk; intro a hk
  refine plan_k rfl hk (by decide) (by repeat' (first | exact far_nil _ | refine far_cons (by decide) ?_)) (v := .pointer (some ⟨gi, 23, none⟩)) (fun o ho w' hS => do_fld79_4 ho (hk.at (mh))) ?_
  clear hk; intro a hk
  refine plan_k rfl hk (by decide) (by repeat' (first | exact far_nil _ | refine far_cons (by decide) ?_)) (v := .int .u32 ((t : Nat) : Int)) (fun o ho w' hS => do_ldB ho Try.underlying53 rfl (hk.at (mh)) (BI.kept hS) (itC_ts hk20)) ?_
  clear hk; intro a hk
  refine plan_kw2 rfl fun o ho hd hgd => ?_
  refine wp_call hgd (do_call2 ho (hk.at (mt (mt (mt (mt mh))))) (hk.at (mh)) (ent2_ks _ _)) (ksuidN_ok (v + 1) (t) _ (by omega) ht) ?_
  rintro e w4 ⟨rfl, hbc⟩
  have hS1 := hbd.trans (hbc.mono hbd.size)
  clear hbc hbd
  replace BI := BI.kept hS1
  replace B3 := B3.kept hS1
  replace hG := grown_trans hG (grown_below hS1 _)
  refine ⟨_, rfl, ?_⟩
  rw [hd]
  refine keep_k (v := .agg (bvs (kid (t) (v + 1))).toArray) hk (by decide) (by repeat' (first | exact far_nil _ | refine far_cons (by decide) ?_)) ?_
  clear hk; intro a hk
  refine ⟨hS1, ?_⟩
  refine plan_k rfl hk (by decide) (by repeat' (first | exact far_nil _ | refine far_cons (by decide) ?_)) (v := .pointer (some ⟨gi, 0, none⟩)) (fun o ho w' hS => do_nilc ho (hk.at (mt (mt (mt (mt (mt (mt mh)))))))) ?_
  clear hk; intro a hk
  refine plan_k rfl hk (by decide) (by repeat' (first | exact far_nil _ | refine far_cons (by decide) ?_)) (v := .pointer (some ⟨gi, 0, none⟩)) (fun o ho w' hS => do_fld79_0 ho (hk.at (mh))) ?_
  clear hk; intro a hk
  refine plan_kl2 rfl fun o ho hd hgd => ?_
  refine wp_store_part ksArr hgd ho (hk.at (mh)) (hk.at (mt (mt mh))) (by rw [bvs_length, kid_length]) (bvs_one _) BI (by rw [itC_length hk20]; decide) fun w5 BIn gg ss => ?_
  clear ss
  rw [itC_put_k hk20 (kid_length _ _)] at BIn
  replace B3 := B3.grown gg (by intro e; have := Option.some.inj e; omega)
  replace hG := grown_trans hG gg
  clear gg BI
  have BI := BIn
  clear BIn
  rw [hd]
  refine keep_0 hk ?_
  clear hk; intro a hk
  show wpPlan _ OPS _ (fun w' => Below w3.heap.size w3 w') (planOps2 _ _) _ _
  refine plan_k0 ?_
  replace hk20 : (kid (t) (v + 1)).length = 20 := kid_length _ _
  refine hK2 _ _ ?_
  clear hK2
  have hk2 : Keeps 272 ([(3, .pointer (some ⟨q3, 0, none⟩)), (0, .pointer (some ⟨gi, 0, none⟩))]) a := by
    refine ⟨hk.1, hk.2.1, fun x hx => hk.2.2 x ?_⟩
    rcases List.mem_cons.1 hx with rfl | hx
    · exact mt (mt (mt (mt (mt (mt (mt (mt (mt mh))))))))
    rcases List.mem_cons.1 hx with rfl | hx
    · exact mt (mt (mt (mt (mt (mt (mt (mt (mt (mt mh)))))))))
    cases hx
  clear hk
  have hk := hk2
  clear hk2
  refine wp_seq_k fun K2 hK2 => ?_
  refine wp_region_lit ?_
  refine list_k rfl rfl hk (by decide) (by repeat' (first | exact far_nil _ | refine far_cons (by decide) ?_)) (v := .pointer (some ⟨gi, 0, none⟩)) (do_move rfl (hk.at (mt mh))) ?_
  clear hk; intro a hk
  refine list_k rfl rfl hk (by decide) (by repeat' (first | exact far_nil _ | refine far_cons (by decide) ?_)) (v := .pointer (some ⟨gi, 0, none⟩)) (do_nilc rfl (hk.at (mh))) ?_
  clear hk; intro a hk
  refine list_k rfl rfl hk (by decide) (by repeat' (first | exact far_nil _ | refine far_cons (by decide) ?_)) (v := .pointer (some ⟨gi, 22, none⟩)) (do_fld79_3 rfl (hk.at (mh))) ?_
  clear hk; intro a hk
  refine list_k rfl rfl hk (by decide) (by repeat' (first | exact far_nil _ | refine far_cons (by decide) ?_)) (v := .int .u64 ((seq + 1 : Nat) : Int)) (do_ldB rfl Try.underlying30 rfl (hk.at (mh)) BI (itC_seq hk20)) ?_
  clear hk; intro a hk
  refine list_k rfl rfl hk (by decide) (by repeat' (first | exact far_nil _ | refine far_cons (by decide) ?_)) (v := .int .u64 ((seq : Nat) : Int)) ((do_subM (n := 1) rfl Try.underlying30 (hk.at (mh)) rfl (by rw [IntKind.wrap_u64]; omega))) ?_
  clear hk; intro a hk
  refine list_k rfl rfl hk (by decide) (by repeat' (first | exact far_nil _ | refine far_cons (by decide) ?_)) (v := .pointer (some ⟨gi, 0, none⟩)) (do_nilc rfl (hk.at (mt (mt (mt (mt mh)))))) ?_
  clear hk; intro a hk
  refine list_k rfl rfl hk (by decide) (by repeat' (first | exact far_nil _ | refine far_cons (by decide) ?_)) (v := .pointer (some ⟨gi, 22, none⟩)) (do_fld79_3 rfl (hk.at (mh))) ?_
  clear hk; intro a hk
  refine wp_store_cell rfl rfl (by kernel_rfl) (hk.at (mh)) (hk.at (mt (mt mh))) rfl BI (by rw [itC_length hk20]; decide) fun w6 BIn gg ss => ?_
  clear ss
  rw [itC_set_seq hk20] at BIn
  replace B3 := B3.grown gg (by intro e; have := Option.some.inj e; omega)
  replace hG := grown_trans hG gg
  clear gg BI
  have BI := BIn
  clear BIn
  refine keep_0 hk ?_
  clear hk; intro a hk
  refine hK2 _ _ ?_
  clear hK2
  have hk2 : Keeps 272 ([(3, .pointer (some ⟨q3, 0, none⟩)), (0, .pointer (some ⟨gi, 0, none⟩))]) a := by
    refine ⟨hk.1, hk.2.1, fun x hx => hk.2.2 x ?_⟩
    rcases List.mem_cons.1 hx with rfl | hx
    · exact mt (mt (mt (mt (mt (mt (mt mh))))))
    rcases List.mem_cons.1 hx with rfl | hx
    · exact mt (mt (mt (mt (mt (mt (mt (mt mh)))))))
    cases hx
  clear hk
  have hk := hk2
  clear hk2
  refine wp_seq_k fun K2 hK2 => ?_
  refine wp_region_lit ?_
  refine list_k rfl rfl hk (by decide) (by repeat' (first | exact far_nil _ | refine far_cons (by decide) ?_)) (v := .pointer (some ⟨gi, 0, none⟩)) (do_move rfl (hk.at (mt mh))) ?_
  clear hk; intro a hk
  refine list_k rfl rfl hk (by decide) (by repeat' (first | exact far_nil _ | refine far_cons (by decide) ?_)) (v := .agg (uN (v + 1)).toArray) (do_ldA u128Arr rfl (hk.at (mt mh)) B3 rfl) ?_
  clear hk; intro a hk
  refine list_k rfl rfl hk (by decide) (by repeat' (first | exact far_nil _ | refine far_cons (by decide) ?_)) (v := .pointer (some ⟨gi, 0, none⟩)) (do_nilc rfl (hk.at (mt mh))) ?_
  clear hk; intro a hk
  refine list_k rfl rfl hk (by decide) (by repeat' (first | exact far_nil _ | refine far_cons (by decide) ?_)) (v := .pointer (some ⟨gi, 24, none⟩)) (do_fld79_5 rfl (hk.at (mh))) ?_
  clear hk; intro a hk
  refine wp_store_part u128Arr rfl rfl (hk.at (mh)) (hk.at (mt (mt mh))) rfl (uN_one _) BI (by rw [itC_length hk20]; decide) fun w7 BIn gg ss => ?_
  clear ss
  rw [itC_put_v hk20] at BIn
  replace B3 := B3.grown gg (by intro e; have := Option.some.inj e; omega)
  replace hG := grown_trans hG gg
  clear gg BI
  have BI := BIn
  clear BIn
  refine keep_0 hk ?_
  clear hk; intro a hk
  refine hK2 _ _ ?_
  clear hK2
  have hk2 : Keeps 272 ([(0, .pointer (some ⟨gi, 0, none⟩))]) a := by
    refine ⟨hk.1, hk.2.1, fun x hx => hk.2.2 x ?_⟩
    rcases List.mem_cons.1 hx with rfl | hx
    · exact mt (mt (mt (mt (mt mh))))
    cases hx
  clear hk
  have hk := hk2
  clear hk2
  refine wp_seq_k fun K2 hK2 => ?_
  refine wp_region_lit ?_
  refine list_k rfl rfl hk (by decide) (by repeat' (first | exact far_nil _ | refine far_cons (by decide) ?_)) (v := .bool true) (do_assign rfl rfl) ?_
  clear hk; intro a hk
  refine hK2 _ _ (wp_ret ?_)
  try simp only [Exit.inBlock, Exit.then]
  refine ret_tmp1 rfl hk.2.1 (hk.at mh) ?_
  exact ⟨rfl, BI, hG⟩
set_option maxRecDepth 100000 in
theorem next_end (gi n cc t v : Nat) (k : List UInt8) (ad : Option Addr) (ty : TypeId) (w : World) (hk20 : k.length = 20) (BI : Blk w gi (itC (k) (.slice ad n cc) (n) (0) (t) (v)) ty) :
    Calls Try.prog 47 #[.pointer (some ⟨gi, 0, none⟩)] w fun e w' => e = .returned (.bool false) ∧ Blk w' gi (itC (k) (.slice ad n cc) (n) (0) (t) (v)) ty ∧ w.grownBy w' (some gi) := by
  have hlt := BI.lt
  go_enter Try.func47, Try.ntmps47
  refine of_keeps 272 [(0, .pointer (some ⟨gi, 0, none⟩))] ⟨by kernel_rfl, rfl, fun x hx => by simp at hx; rcases hx with rfl; rfl⟩ fun a hk => ?_
  have hG : w.grownBy w (some gi) := World.grownBy.refl _ _
  refine wp_seq_k fun K0 hK0 => ?_
  refine wp_region_lit ?_
  refine list_k rfl rfl hk (by decide) (by repeat' (first | exact far_nil _ | refine far_cons (by decide) ?_)) (v := .bool false) (do_assign rfl rfl) ?_
  clear hk; intro a hk
  refine hK0 _ _ ?_
  clear hK0
  have hk2 : Keeps 272 ([(0, .pointer (some ⟨gi, 0, none⟩))]) a := by
    refine ⟨hk.1, hk.2.1, fun x hx => hk.2.2 x ?_⟩
    rcases List.mem_cons.1 hx with rfl | hx
    · exact mt mh
    cases hx
  clear hk
  have hk := hk2
  clear hk2
  refine wp_seq_k fun K1 hK1 => ?_
  refine wp_seq_k fun K2 hK2 => ?_
  refine wp_region_lit ?_
  refine list_k rfl rfl hk (by decide) (by repeat' (first | exact far_nil _ | refine far_cons (by decide) ?_)) (v := .pointer (some ⟨gi, 0, none⟩)) (do_move rfl (hk.at (mh))) ?_
  clear hk; intro a hk
  refine list_k rfl rfl hk (by decide) (by repeat' (first | exact far_nil _ | refine far_cons (by decide) ?_)) (v := .pointer (some ⟨gi, 0, none⟩)) (do_nilc rfl (hk.at (mh))) ?_
  clear hk; intro a hk
  refine list_k rfl rfl hk (by decide) (by repeat' (first | exact far_nil _ | refine far_cons (by decide) ?_)) (v := .pointer (some ⟨gi, 22, none⟩)) (do_fld79_3 rfl (hk.at (mh))) ?_
  clear hk; intro a hk
  refine list_k rfl rfl hk (by decide) (by repeat' (first | exact far_nil _ | refine far_cons (by decide) ?_)) (v := .int .u64 ((0 : Nat) : Int)) (do_ldB rfl Try.underlying30 rfl (hk.at (mh)) BI (itC_seq hk20)) ?_
  clear hk; intro a hk
  refine list_k rfl rfl hk (by decide) (by repeat' (first | exact far_nil _ | refine far_cons (by decide) ?_)) (v := .bool false) ((do_neF (n := 0) rfl Try.underlying30 (hk.at (mh)) rfl rfl)) ?_
  clear hk; intro a hk
  refine hK2 _ _ (wp_cond_false (hk.at mh) ?_)
  clear hK2
  refine wp_skip (hK1 _ _ ?_)
  clear hK1
  have hk2 : Keeps 272 ([(0, .pointer (some ⟨gi, 0, none⟩))]) a := by
    refine ⟨hk.1, hk.2.1, fun x hx => hk.2.2 x ?_⟩
    rcases List.mem_cons.1 hx with rfl | hx
    · exact mt (mt (mt (mt (mt mh))))
    cases hx
  clear hk
  have hk := hk2
  clear hk2
  refine wp_seq_k fun K1 hK1 => ?_
  refine wp_seq_k fun K2 hK2 => ?_
  refine region_plan2 (fun w' => Below w.heap.size w w') [(0, 0), (1, 0), (2, 0), (3, 0), (4, 0), (5, 0), (6, 0), (7, 0), (8, 0), (9, 0)] rfl (by kernel_rfl) (by kernel_rfl) rfl (by intro c a d v w h; cases d <;> exact h) (fun _ _ h => h) ?_
  intro OPS wd hpW hbd
  clear hpW
  refine plan_k rfl hk (by decide) (by repeat' (first | exact far_nil _ | refine far_cons (by decide) ?_)) (v := .pointer (some ⟨gi, 0, none⟩)) (fun o ho w' hS => do_move ho (hk.at (mh))) ?_
  clear hk; intro a hk
  refine plan_k rfl hk (by decide) (by repeat' (first | exact far_nil _ | refine far_cons (by decide) ?_)) (v := .pointer (some ⟨gi, 0, none⟩)) (fun o ho w' hS => do_nilc ho (hk.at (mh))) ?_
  clear hk; intro a hk
  refine plan_k rfl hk (by decide) (by repeat' (first | exact far_nil _ | refine far_cons (by decide) ?_)) (v := .pointer (some ⟨gi, 21, none⟩)) (fun o ho w' hS => do_fld79_2 ho (hk.at (mh))) ?_
  clear hk; intro a hk
  refine plan_k rfl hk (by decide) (by repeat' (first | exact far_nil _ | refine far_cons (by decide) ?_)) (v := .int .i64 ((n : Nat) : Int)) (fun o ho w' hS => do_ldB ho Try.underlying3 rfl (hk.at (mh)) (BI.kept hS) (itC_off hk20)) ?_
  clear hk; intro a hk
  refine plan_k rfl hk (by decide) (by repeat' (first | exact far_nil _ | refine far_cons (by decide) ?_)) (v := .pointer (some ⟨gi, 0, none⟩)) (fun o ho w' hS => do_move ho (hk.at (mt (mt (mt (mt mh)))))) ?_
  clear hk; intro a hk
  refine plan_k rfl hk (by decide) (by repeat' (first | exact far_nil _ | refine far_cons (by decide) ?_)) (v := .pointer (some ⟨gi, 0, none⟩)) (fun o ho w' hS => do_nilc ho (hk.at (mh))) ?_
  clear hk; intro a hk
  refine plan_k rfl hk (by decide) (by repeat' (first | exact far_nil _ | refine far_cons (by decide) ?_)) (v := .pointer (some ⟨gi, 20, none⟩)) (fun o ho w' hS => do_fld79_1 ho (hk.at (mh))) ?_
  clear hk; intro a hk
  refine plan_k rfl hk (by decide) (by repeat' (first | exact far_nil _ | refine far_cons (by decide) ?_)) (v := .slice ad n cc) (fun o ho w' hS => do_ldB ho Try.underlying22 rfl (hk.at (mh)) (BI.kept hS) (itC_sl hk20)) ?_
  clear hk; intro a hk
  refine plan_k rfl hk (by decide) (by repeat' (first | exact far_nil _ | refine far_cons (by decide) ?_)) (v := .int .i64 ((n : Nat) : Int)) (fun o ho w' hS => do_lenS ho (hk.at (mh)) Try.underlying22) ?_
  clear hk; intro a hk
  refine plan_k rfl hk (by decide) (by repeat' (first | exact far_nil _ | refine far_cons (by decide) ?_)) (v := .bool true) (fun o ho w' hS => (do_eqT ho Try.underlying3 (hk.at (mt (mt (mt (mt (mt mh)))))) (hk.at (mh)) rfl)) ?_
  clear hk; intro a hk
  refine plan_k0 ?_
  replace BI := BI.kept hbd
  replace hG := grown_trans hG (grown_below hbd _)
  clear hbd
  
  refine hK2 _ _ (wp_cond_true (hk.at mh) ?_)
  clear hK2
  clear hK1
  have hk2 : Keeps 272 ([(0, .pointer (some ⟨gi, 0, none⟩))]) a := by
    refine ⟨hk.1, hk.2.1, fun x hx => hk.2.2 x ?_⟩
    rcases List.mem_cons.1 hx with rfl | hx
    · exact mt (mt (mt (mt (mt (mt (mt (mt (mt (mt mh)))))))))
    cases hx
  clear hk
  have hk := hk2
  clear hk2
  refine wp_seq_k fun K2 hK2 => ?_
  refine wp_region_lit ?_
  refine list_k rfl rfl hk (by decide) (by repeat' (first | exact far_nil _ | refine far_cons (by decide) ?_)) (v := .bool false) (do_assign rfl rfl) ?_
  clear hk; intro a hk
  refine hK2 _ _ (wp_ret ?_)
  try simp only [Exit.inBlock, Exit.then]
  refine ret_tmp1 rfl hk.2.1 (hk.at mh) ?_
  exact ⟨rfl, BI, hG⟩
end Go.Proofs.Ytbacbgicfomkbaa
