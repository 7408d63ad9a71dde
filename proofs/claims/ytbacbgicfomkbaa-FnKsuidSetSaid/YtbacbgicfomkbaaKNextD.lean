/- Contract of CompressedSetIter.Next: a greater payload. -/
import Derived.Test.YtbacbgicfomkbaaKNextS
namespace Go.Proofs.Ytbacbgicfomkbaa
open Go.RowKit
set_option linter.unusedVariables false
set_option linter.unusedSimpArgs false
set_option maxRecDepth 100000 in
set_option maxHeartbeats 1000000 in
theorem next_delta (gi bc oc cc off n t v d m : Nat) (k c b : List UInt8) (ty : TypeId) (w : World) (hk20 : k.length = 20) (BI : Blk w gi (itC (k) (.slice (some ⟨bc, oc, none⟩) n cc) (off) (0) (t) (v)) ty) (RC : Rd w (some ⟨bc, oc, none⟩) c) (hcn : c.length = n) (hncc : n ≤ cc) (hn2 : n ≤ 100000) (hne : bc ≠ gi) (ht : t < 4294967296) (hm1 : 1 ≤ m) (hm16 : m ≤ 16) (hd256 : d < 256 ^ m) (hvd : v + d < 340282366920938463463374607431768211456) (hd : c.drop off = UInt8.ofNat (128 + m) :: (be m d ++ b)) :
    Calls Try.prog 47 #[.pointer (some ⟨gi, 0, none⟩)] w fun e w' => e = .returned (.bool true) ∧ Blk w' gi (itC (kid t (v + d)) (.slice (some ⟨bc, oc, none⟩) n cc) (off + 1 + m) (0) (t) (v + d)) ty ∧ w.grownBy w' (some gi) := by
  have hlt := BI.lt
  obtain ⟨htag, hoc, hd1⟩ := B_of_drop hd
  have hon : off < n := by omega
  have hbcw : bc < w.heap.size := (rd_addr RC (by omega) _ rfl).2
  have hdl := congrArg List.length hd1
  rw [List.length_drop, hcn] at hdl
  rw [toNat_of _ (by omega)] at htag
  rw [List.length_append, be_length] at hdl
  go_enter Try.func47, Try.ntmps47
  refine of_keeps 272 [(0, .pointer (some ⟨gi, 0, none⟩))] ⟨by kernel_rfl, rfl, fun x hx => by simp at hx; rcases hx with rfl; rfl⟩ fun a hk => ?_
  have hG : w.grownBy w (some gi) := World.grownBy.refl _ _
  refine wp_seq_k fun K0 hK0 => ?_
  refine wp_region_lit ?_
  refine list_k rfl rfl hk (by decide) (by repeat' (first | exact far_nil _ | refine far_cons (by decide) ?_)) (v := .bool false) (do_assign rfl rfl) ?_
  clear hk; intro a hk
  refine hK0 _ _ ?_
  clear hK0
  have hk2 : Keeps 272 ([(0, .pointer (some ⟨gi, 0, none⟩))]) a := by
    refine ⟨hk.1, hk.2.1, fun x hx => hk.2.2 x ?_⟩
    rcases List.mem_cons.1 hx with rfl | hx
    · exact mt mh
    cases hx
  clear hk
  have hk := hk2
  clear hk2
  refine wp_seq_k fun K1 hK1 => ?_
  refine wp_seq_k fun K2 hK2 => ?_
  refine wp_region_lit ?_
  refine list_k rfl rfl hk (by decide) (by repeat' (first | exact far_nil _ | refine far_cons (by decide) ?_)) (v := .pointer (some ⟨gi, 0, none⟩)) (do_move rfl (hk.at (mh))) ?_
  clear hk; intro a hk
  refine list_k rfl rfl hk (by decide) (by repeat' (first | exact far_nil _ | refine far_cons (by decide) ?_)) (v := .pointer (some ⟨gi, 0, none⟩)) (do_nilc rfl (hk.at (mh))) ?_
  clear hk; intro a hk
  refine list_k rfl rfl hk (by decide) (by repeat' (first | exact far_nil _ | refine far_cons (by decide) ?_)) (v := .pointer (some ⟨gi, 22, none⟩)) (do_fld79_3 rfl (hk.at (mh))) ?_
  clear hk; intro a hk
  refine list_k rfl rfl hk (by decide) (by repeat' (first | exact far_nil _ | refine far_cons (by decide) ?_)) (v := .int .u64 ((0 : Nat) : Int)) (do_ldB rfl Try.underlying30 rfl (hk.at (mh)) BI (itC_seq hk20)) ?_
  clear hk; intro a hk
  refine list_k rfl rfl hk (by decide) (by repeat' (first | exact far_nil _ | refine far_cons (by decide) ?_)) (v := .bool false) ((do_neF (n := 0) rfl Try.underlying30 (hk.at (mh)) rfl rfl)) ?_
  clear hk; intro a hk
  refine hK2 _ _ (wp_cond_false (hk.at mh) ?_)
  clear hK2
  refine wp_skip (hK1 _ _ ?_)
  clear hK1
  have hk2 : Keeps 272 ([(0, .pointer (some ⟨gi, 0, none⟩))]) a := by
    refine ⟨hk.1, hk.2.1, fun x hx => hk.2.2 x ?_⟩
    rcases List.mem_cons.1 hx with rfl | hx
    · exact mt (mt (mt (mt (mt mh))))
    cases hx
  clear hk
  have hk := hk2
  clear hk2
  refine wp_seq_k fun K1 hK1 => ?_
  refine wp_seq_k fun K2 hK2 => ?_
  refine region_plan2 (fun w' => Below w.heap.size w w') [(0, 0), (1, 0), (2, 0), (3, 0), (4, 0), (5, 0), (6, 0), (7, 0), (8, 0), (9, 0)] rfl (by kernel_rfl) (by kernel_rfl) rfl (by intro c a d v w h; cases d <;> exact h) (fun _ _ h => h) ?_
  intro OPS wd hpW hbd
  clear hpW
  refine plan_k rfl hk (by decide) (by repeat' (first | exact far_nil _ | refine far_cons (by decide) ?_)) (v := .pointer (some ⟨gi, 0, none⟩)) (fun o ho w' hS => do_move ho (hk.at (mh))) ?_
  clear hk; intro a hk
  refine plan_k rfl hk (by decide) (by repeat' (first | exact far_nil _ | refine far_cons (by decide) ?_)) (v := .pointer (some ⟨gi, 0, none⟩)) (fun o ho w' hS => do_nilc ho (hk.at (mh))) ?_
  clear hk; intro a hk
  refine plan_k rfl hk (by decide) (by repeat' (first | exact far_nil _ | refine far_cons (by decide) ?_)) (v := .pointer (some ⟨gi, 21, none⟩)) (fun o ho w' hS => do_fld79_2 ho (hk.at (mh))) ?_
  clear hk; intro a hk
  refine plan_k rfl hk (by decide) (by repeat' (first | exact far_nil _ | refine far_cons (by decide) ?_)) (v := .int .i64 ((off : Nat) : Int)) (fun o ho w' hS => do_ldB ho Try.underlying3 rfl (hk.at (mh)) (BI.kept hS) (itC_off hk20)) ?_
  clear hk; intro a hk
  refine plan_k rfl hk (by decide) (by repeat' (first | exact far_nil _ | refine far_cons (by decide) ?_)) (v := .pointer (some ⟨gi, 0, none⟩)) (fun o ho w' hS => do_move ho (hk.at (mt (mt (mt (mt mh)))))) ?_
  clear hk; intro a hk
  refine plan_k rfl hk (by decide) (by repeat' (first | exact far_nil _ | refine far_cons (by decide) ?_)) (v := .pointer (some ⟨gi, 0, none⟩)) (fun o ho w' hS => do_nilc ho (hk.at (mh))) ?_
  clear hk; intro a hk
  refine plan_k rfl hk (by decide) (by repeat' (first | exact far_nil _ | refine far_cons (by decide) ?_)) (v := .pointer (some ⟨gi, 20, none⟩)) (fun o ho w' hS => do_fld79_1 ho (hk.at (mh))) ?_
  clear hk; intro a hk
  refine plan_k rfl hk (by decide) (by repeat' (first | exact far_nil _ | refine far_cons (by decide) ?_)) (v := .slice (some ⟨bc, oc, none⟩) n cc) (fun o ho w' hS => do_ldB ho Try.underlying22 rfl (hk.at (mh)) (BI.kept hS) (itC_sl hk20)) ?_
  clear hk; intro a hk
  refine plan_k rfl hk (by decide) (by repeat' (first | exact far_nil _ | refine far_cons (by decide) ?_)) (v := .int .i64 ((n : Nat) : Int)) (fun o ho w' hS => do_lenS ho (hk.at (mh)) Try.underlying22) ?_
  clear hk; intro a hk
  refine plan_k rfl hk (by decide) (by repeat' (first | exact far_nil _ | refine far_cons (by decide) ?_)) (v := .bool false) (fun o ho w' hS => (do_eqF ho Try.underlying3 (hk.at (mt (mt (mt (mt (mt mh)))))) (hk.at (mh)) (by omega))) ?_
  clear hk; intro a hk
  refine plan_k0 ?_
  replace BI := BI.kept hbd
  replace RC := RC.kept hbd
  replace hG := grown_trans hG (grown_below hbd _)
  clear hbd
  
  refine hK2 _ _ (wp_cond_false (hk.at mh) ?_)
  clear hK2
  refine wp_skip (hK1 _ _ ?_)
  clear hK1
  have hk2 : Keeps 272 ([(0, .pointer (some ⟨gi, 0, none⟩))]) a := by
    refine ⟨hk.1, hk.2.1, fun x hx => hk.2.2 x ?_⟩
    rcases List.mem_cons.1 hx with rfl | hx
    · exact mt (mt (mt (mt (mt (mt (mt (mt (mt (mt mh)))))))))
    cases hx
  clear hk
  have hk := hk2
  clear hk2
  refine wp_seq_k fun K1 hK1 => ?_
  refine region_plan2 (fun w' => Below wd.heap.size wd w') [(0, 0), (1, 0), (2, 0), (3, 0), (4, 0), (5, 0), (6, 0), (7, 0), (8, 0), (9, 0), (10, 0)] rfl (by kernel_rfl) (by kernel_rfl) rfl (by intro c a d v w h; cases d <;> exact h) (fun _ _ h => h) ?_
  intro OPS wdd hpW hbd
  clear hpW
  refine plan_k rfl hk (by decide) (by repeat' (first | exact far_nil _ | refine far_cons (by decide) ?_)) (v := .pointer (some ⟨gi, 0, none⟩)) (fun o ho w' hS => do_move ho (hk.at (mh))) ?_
  clear hk; intro a hk
  refine plan_k rfl hk (by decide) (by repeat' (first | exact far_nil _ | refine far_cons (by decide) ?_)) (v := .pointer (some ⟨gi, 0, none⟩)) (fun o ho w' hS => do_nilc ho (hk.at (mh))) ?_
  clear hk; intro a hk
  refine plan_k rfl hk (by decide) (by repeat' (first | exact far_nil _ | refine far_cons (by decide) ?_)) (v := .pointer (some ⟨gi, 20, none⟩)) (fun o ho w' hS => do_fld79_1 ho (hk.at (mh))) ?_
  clear hk; intro a hk
  refine plan_k rfl hk (by decide) (by repeat' (first | exact far_nil _ | refine far_cons (by decide) ?_)) (v := .slice (some ⟨bc, oc, none⟩) n cc) (fun o ho w' hS => do_ldB ho Try.underlying22 rfl (hk.at (mh)) (BI.kept hS) (itC_sl hk20)) ?_
  clear hk; intro a hk
  refine plan_k rfl hk (by decide) (by repeat' (first | exact far_nil _ | refine far_cons (by decide) ?_)) (v := .pointer (some ⟨gi, 0, none⟩)) (fun o ho w' hS => do_move ho (hk.at (mt (mt (mt (mt mh)))))) ?_
  clear hk; intro a hk
  refine plan_k rfl hk (by decide) (by repeat' (first | exact far_nil _ | refine far_cons (by decide) ?_)) (v := .pointer (some ⟨gi, 0, none⟩)) (fun o ho w' hS => do_nilc ho (hk.at (mh))) ?_
  clear hk; intro a hk
  refine plan_k rfl hk (by decide) (by repeat' (first | exact far_nil _ | refine far_cons (by decide) ?_)) (v := .pointer (some ⟨gi, 21, none⟩)) (fun o ho w' hS => do_fld79_2 ho (hk.at (mh))) ?_
  clear hk; intro a hk
  refine plan_k rfl hk (by decide) (by repeat' (first | exact far_nil _ | refine far_cons (by decide) ?_)) (v := .int .i64 ((off : Nat) : Int)) (fun o ho w' hS => do_ldB ho Try.underlying3 rfl (hk.at (mh)) (BI.kept hS) (itC_off hk20)) ?_
  clear hk; intro a hk
  refine plan_k rfl hk (by decide) (by repeat' (first | exact far_nil _ | refine far_cons (by decide) ?_)) (v := .pointer (some ⟨bc, oc + off, none⟩)) (fun o ho w' hS => still_index (S := fun _ => True) ho Try.underlying22 (by kernel_rfl) (hk.at (mt (mt (mt (mt mh))))) off (hk.at (mh)) hon _ trivial) ?_
  clear hk; intro a hk
  refine plan_k rfl hk (by decide) (by repeat' (first | exact far_nil _ | refine far_cons (by decide) ?_)) (v := .int .u8 ((128 + m : Nat) : Int)) (fun o ho w' hS => do_ldC ho Try.underlying5 rfl (hk.at (mh)) (by rw [← htag]; exact rd_cell (RC.kept hS) off hoc)) ?_
  clear hk; intro a hk
  refine plan_k rfl hk (by decide) (by repeat' (first | exact far_nil _ | refine far_cons (by decide) ?_)) (v := .int .u8 ((128 + m : Nat) : Int)) (fun o ho w' hS => do_assign ho (hk.at (mh))) ?_
  clear hk; intro a hk
  refine plan_k0 ?_
  replace BI := BI.kept hbd
  replace RC := RC.kept hbd
  replace hG := grown_trans hG (grown_below hbd _)
  clear hbd
  
  refine hK1 _ _ ?_
  clear hK1
  have hk2 : Keeps 272 ([(4, .int .u8 ((128 + m : Nat) : Int)), (0, .pointer (some ⟨gi, 0, none⟩))]) a := by
    refine ⟨hk.1, hk.2.1, fun x hx => hk.2.2 x ?_⟩
    rcases List.mem_cons.1 hx with rfl | hx
    · exact mh
    rcases List.mem_cons.1 hx with rfl | hx
    · exact mt (mt (mt (mt (mt (mt (mt (mt (mt (mt (mt mh))))))))))
    cases hx
  clear hk
  have hk := hk2
  clear hk2
  refine wp_seq_k fun K1 hK1 => ?_
  refine wp_region_lit ?_
  refine list_k rfl rfl hk (by decide) (by repeat' (first | exact far_nil _ | refine far_cons (by decide) ?_)) (v := .pointer (some ⟨gi, 0, none⟩)) (do_move rfl (hk.at (mt mh))) ?_
  clear hk; intro a hk
  refine list_k rfl rfl hk (by decide) (by repeat' (first | exact far_nil _ | refine far_cons (by decide) ?_)) (v := .pointer (some ⟨gi, 0, none⟩)) (do_nilc rfl (hk.at (mh))) ?_
  clear hk; intro a hk
  refine list_k rfl rfl hk (by decide) (by repeat' (first | exact far_nil _ | refine far_cons (by decide) ?_)) (v := .pointer (some ⟨gi, 21, none⟩)) (do_fld79_2 rfl (hk.at (mh))) ?_
  clear hk; intro a hk
  refine list_k rfl rfl hk (by decide) (by repeat' (first | exact far_nil _ | refine far_cons (by decide) ?_)) (v := .int .i64 ((off : Nat) : Int)) (do_ldB rfl Try.underlying3 rfl (hk.at (mh)) BI (itC_off hk20)) ?_
  clear hk; intro a hk
  refine list_k rfl rfl hk (by decide) (by repeat' (first | exact far_nil _ | refine far_cons (by decide) ?_)) (v := .int .i64 ((off + 1 : Nat) : Int)) ((do_addN (n := 1) rfl Try.underlying3 (hk.at (mh)) rfl (by rw [IntKind.wrap_i64]; omega))) ?_
  clear hk; intro a hk
  refine list_k rfl rfl hk (by decide) (by repeat' (first | exact far_nil _ | refine far_cons (by decide) ?_)) (v := .pointer (some ⟨gi, 0, none⟩)) (do_nilc rfl (hk.at (mt (mt (mt (mt mh)))))) ?_
  clear hk; intro a hk
  refine list_k rfl rfl hk (by decide) (by repeat' (first | exact far_nil _ | refine far_cons (by decide) ?_)) (v := .pointer (some ⟨gi, 21, none⟩)) (do_fld79_2 rfl (hk.at (mh))) ?_
  clear hk; intro a hk
  refine wp_store_cell rfl rfl (by kernel_rfl) (hk.at (mh)) (hk.at (mt (mt mh))) rfl BI (by rw [itC_length hk20]; decide) fun w1 BIn gg ss => ?_
  clear ss
  rw [itC_set_off hk20] at BIn
  replace RC := RC.grown gg (by rintro x ⟨⟩ e; have e2 : bc = gi := Option.some.inj e; omega)
  replace hG := grown_trans hG gg
  clear gg BI
  have BI := BIn
  clear BIn
  refine keep_0 hk ?_
  clear hk; intro a hk
  refine hK1 _ _ ?_
  clear hK1
  have hk2 : Keeps 272 ([(4, .int .u8 ((128 + m : Nat) : Int)), (0, .pointer (some ⟨gi, 0, none⟩))]) a := by
    refine ⟨hk.1, hk.2.1, fun x hx => hk.2.2 x ?_⟩
    rcases List.mem_cons.1 hx with rfl | hx
    · exact mt (mt (mt (mt (mt (mt (mt mh))))))
    rcases List.mem_cons.1 hx with rfl | hx
    · exact mt (mt (mt (mt (mt (mt (mt (mt mh)))))))
    cases hx
  clear hk
  have hk := hk2
  clear hk2
  refine wp_seq_k fun K1 hK1 => ?_
  refine wp_region_lit ?_
  refine list_k rfl rfl hk (by decide) (by repeat' (first | exact far_nil _ | refine far_cons (by decide) ?_)) (v := .int .u8 ((128 + m : Nat) : Int)) (do_move rfl (hk.at (mh))) ?_
  clear hk; intro a hk
  refine list_k rfl rfl hk (by decide) (by repeat' (first | exact far_nil _ | refine far_cons (by decide) ?_)) (v := .int .i64 ((128 + m : Nat) : Int)) (do_cvtN rfl Try.underlying5 Try.underlying3 (hk.at (mh)) (by rw [IntKind.wrap_i64]; omega)) ?_
  clear hk; intro a hk
  refine list_k rfl rfl hk (by decide) (by repeat' (first | exact far_nil _ | refine far_cons (by decide) ?_)) (v := .int .i64 ((128 : Nat) : Int)) (do_andC rfl Try.underlying3 (hk.at (mh)) (tag128 ⟨m, by omega⟩).1) ?_
  clear hk; intro a hk
  refine list_k rfl rfl hk (by decide) (by repeat' (first | exact far_nil _ | refine far_cons (by decide) ?_)) (v := .int .i64 ((128 : Nat) : Int)) (do_assign rfl (hk.at (mh))) ?_
  clear hk; intro a hk
  refine hK1 _ _ ?_
  clear hK1
  have hk2 : Keeps 272 ([(5, .int .i64 ((128 : Nat) : Int)), (4, .int .u8 ((128 + m : Nat) : Int)), (0, .pointer (some ⟨gi, 0, none⟩))]) a := by
    refine ⟨hk.1, hk.2.1, fun x hx => hk.2.2 x ?_⟩
    rcases List.mem_cons.1 hx with rfl | hx
    · exact mh
    rcases List.mem_cons.1 hx with rfl | hx
    · exact mt (mt (mt (mt mh)))
    rcases List.mem_cons.1 hx with rfl | hx
    · exact mt (mt (mt (mt (mt mh))))
    cases hx
  clear hk
  have hk := hk2
  clear hk2
  refine wp_seq_k fun K1 hK1 => ?_
  refine wp_region_lit ?_
  refine list_k rfl rfl hk (by decide) (by repeat' (first | exact far_nil _ | refine far_cons (by decide) ?_)) (v := .int .u8 ((128 + m : Nat) : Int)) (do_move rfl (hk.at (mt mh))) ?_
  clear hk; intro a hk
  refine list_k rfl rfl hk (by decide) (by repeat' (first | exact far_nil _ | refine far_cons (by decide) ?_)) (v := .int .i64 ((128 + m : Nat) : Int)) (do_cvtN rfl Try.underlying5 Try.underlying3 (hk.at (mh)) (by rw [IntKind.wrap_i64]; omega)) ?_
  clear hk; intro a hk
  refine list_k rfl rfl hk (by decide) (by repeat' (first | exact far_nil _ | refine far_cons (by decide) ?_)) (v := .int .i64 ((m : Nat) : Int)) (do_andC rfl Try.underlying3 (hk.at (mh)) (tag128 ⟨m, by omega⟩).2) ?_
  clear hk; intro a hk
  refine list_k rfl rfl hk (by decide) (by repeat' (first | exact far_nil _ | refine far_cons (by decide) ?_)) (v := .int .i64 ((m : Nat) : Int)) (do_assign rfl (hk.at (mh))) ?_
  clear hk; intro a hk
  refine hK1 _ _ ?_
  clear hK1
  have hk2 : Keeps 272 ([(6, .int .i64 ((m : Nat) : Int)), (5, .int .i64 ((128 : Nat) : Int)), (0, .pointer (some ⟨gi, 0, none⟩))]) a := by
    refine ⟨hk.1, hk.2.1, fun x hx => hk.2.2 x ?_⟩
    rcases List.mem_cons.1 hx with rfl | hx
    · exact mh
    rcases List.mem_cons.1 hx with rfl | hx
    · exact mt (mt (mt (mt mh)))
    rcases List.mem_cons.1 hx with rfl | hx
    · exact mt (mt (mt (mt (mt (mt mh)))))
    cases hx
  clear hk
  have hk := hk2
  clear hk2
  refine wp_seq_k fun K1 hK1 => ?_
  refine wp_seq_k fun K2 hK2 => ?_
  refine wp_region_lit ?_
  refine list_k rfl rfl hk (by decide) (by repeat' (first | exact far_nil _ | refine far_cons (by decide) ?_)) (v := .int .i64 ((128 : Nat) : Int)) (do_move rfl (hk.at (mt mh))) ?_
  clear hk; intro a hk
  refine hK2 _ _ ?_
  clear hK2
  have hk2 : Keeps 272 ([(82, .int .i64 ((128 : Nat) : Int)), (6, .int .i64 ((m : Nat) : Int)), (0, .pointer (some ⟨gi, 0, none⟩))]) a := by
    refine ⟨hk.1, hk.2.1, fun x hx => hk.2.2 x ?_⟩
    rcases List.mem_cons.1 hx with rfl | hx
    · exact mh
    rcases List.mem_cons.1 hx with rfl | hx
    · exact mt mh
    rcases List.mem_cons.1 hx with rfl | hx
    · exact mt (mt (mt mh))
    cases hx
  clear hk
  have hk := hk2
  clear hk2
  refine wp_block ?_
  refine wp_seq_k fun K2 hK2 => ?_
  refine wp_region_lit ?_
  refine list_k rfl rfl hk (by decide) (by repeat' (first | exact far_nil _ | refine far_cons (by decide) ?_)) (v := .bool false) ((do_eqF (m := 128) (n := 0) rfl Try.underlying3 (hk.at (mh)) rfl (by decide))) ?_
  clear hk; intro a hk
  refine list_k rfl rfl hk (by decide) (by repeat' (first | exact far_nil _ | refine far_cons (by decide) ?_)) (v := .bool false) (do_assign rfl (hk.at (mh))) ?_
  clear hk; intro a hk
  refine hK2 _ _ (wp_cond_false (hk.at mh) ?_)
  clear hK2
  have hk2 : Keeps 272 ([(82, .int .i64 ((128 : Nat) : Int)), (6, .int .i64 ((m : Nat) : Int)), (0, .pointer (some ⟨gi, 0, none⟩))]) a := by
    refine ⟨hk.1, hk.2.1, fun x hx => hk.2.2 x ?_⟩
    rcases List.mem_cons.1 hx with rfl | hx
    · exact mt (mt mh)
    rcases List.mem_cons.1 hx with rfl | hx
    · exact mt (mt (mt mh))
    rcases List.mem_cons.1 hx with rfl | hx
    · exact mt (mt (mt (mt mh)))
    cases hx
  clear hk
  have hk := hk2
  clear hk2
  refine wp_seq_k fun K2 hK2 => ?_
  refine wp_region_lit ?_
  refine list_k rfl rfl hk (by decide) (by repeat' (first | exact far_nil _ | refine far_cons (by decide) ?_)) (v := .bool false) ((do_eqF (m := 128) (n := 64) rfl Try.underlying3 (hk.at (mh)) rfl (by decide))) ?_
  clear hk; intro a hk
  refine list_k rfl rfl hk (by decide) (by repeat' (first | exact far_nil _ | refine far_cons (by decide) ?_)) (v := .bool false) (do_assign rfl (hk.at (mh))) ?_
  clear hk; intro a hk
  refine hK2 _ _ (wp_cond_false (hk.at mh) ?_)
  clear hK2
  have hk2 : Keeps 272 ([(82, .int .i64 ((128 : Nat) : Int)), (6, .int .i64 ((m : Nat) : Int)), (0, .pointer (some ⟨gi, 0, none⟩))]) a := by
    refine ⟨hk.1, hk.2.1, fun x hx => hk.2.2 x ?_⟩
    rcases List.mem_cons.1 hx with rfl | hx
    · exact mt (mt mh)
    rcases List.mem_cons.1 hx with rfl | hx
    · exact mt (mt (mt mh))
    rcases List.mem_cons.1 hx with rfl | hx
    · exact mt (mt (mt (mt mh)))
    cases hx
  clear hk
  have hk := hk2
  clear hk2
  refine wp_seq_k fun K2 hK2 => ?_
  refine wp_region_lit ?_
  refine list_k rfl rfl hk (by decide) (by repeat' (first | exact far_nil _ | refine far_cons (by decide) ?_)) (v := .bool true) ((do_eqT (m := 128) (n := 128) rfl Try.underlying3 (hk.at (mh)) rfl rfl)) ?_
  clear hk; intro a hk
  refine list_k rfl rfl hk (by decide) (by repeat' (first | exact far_nil _ | refine far_cons (by decide) ?_)) (v := .bool true) (do_assign rfl (hk.at (mh))) ?_
  clear hk; intro a hk
  refine hK2 _ _ (wp_cond_true (hk.at mh) ?_)
  clear hK2
  have hk2 : Keeps 272 ([(82, .int .i64 ((128 : Nat) : Int)), (6, .int .i64 ((m : Nat) : Int)), (0, .pointer (some ⟨gi, 0, none⟩))]) a := by
    refine ⟨hk.1, hk.2.1, fun x hx => hk.2.2 x ?_⟩
    rcases List.mem_cons.1 hx with rfl | hx
    · exact mt (mt mh)
    rcases List.mem_cons.1 hx with rfl | hx
    · exact mt (mt (mt mh))
    rcases List.mem_cons.1 hx with rfl | hx
    · exact mt (mt (mt (mt mh)))
    cases hx
  clear hk
  have hk := hk2
  clear hk2
  refine wp_seq_k fun K2 hK2 => ?_
  refine wp_region_lit ?_
  refine list_k rfl rfl hk (by decide) (by repeat' (first | exact far_nil _ | refine far_cons (by decide) ?_)) (v := .pointer (some ⟨gi, 0, none⟩)) (do_move rfl (hk.at (mt (mt mh)))) ?_
  clear hk; intro a hk
  refine list_k rfl rfl hk (by decide) (by repeat' (first | exact far_nil _ | refine far_cons (by decide) ?_)) (v := .pointer (some ⟨gi, 0, none⟩)) (do_nilc rfl (hk.at (mh))) ?_
  clear hk; intro a hk
  refine list_k rfl rfl hk (by decide) (by repeat' (first | exact far_nil _ | refine far_cons (by decide) ?_)) (v := .pointer (some ⟨gi, 21, none⟩)) (do_fld79_2 rfl (hk.at (mh))) ?_
  clear hk; intro a hk
  refine list_k rfl rfl hk (by decide) (by repeat' (first | exact far_nil _ | refine far_cons (by decide) ?_)) (v := .int .i64 ((off + 1 : Nat) : Int)) (do_ldB rfl Try.underlying3 rfl (hk.at (mh)) BI (itC_off hk20)) ?_
  clear hk; intro a hk
  refine list_k rfl rfl hk (by decide) (by repeat' (first | exact far_nil _ | refine far_cons (by decide) ?_)) (v := .int .i64 ((off + 1 : Nat) : Int)) (do_assign rfl (hk.at (mh))) ?_
  clear hk; intro a hk
  refine hK2 _ _ ?_
  clear hK2
  have hk2 : Keeps 272 ([(12, .int .i64 ((off + 1 : Nat) : Int)), (6, .int .i64 ((m : Nat) : Int)), (0, .pointer (some ⟨gi, 0, none⟩))]) a := by
    refine ⟨hk.1, hk.2.1, fun x hx => hk.2.2 x ?_⟩
    rcases List.mem_cons.1 hx with rfl | hx
    · exact mh
    rcases List.mem_cons.1 hx with rfl | hx
    · exact mt (mt (mt (mt (mt (mt mh)))))
    rcases List.mem_cons.1 hx with rfl | hx
    · exact mt (mt (mt (mt (mt (mt (mt mh))))))
    cases hx
  clear hk
  have hk := hk2
  clear hk2
  refine wp_seq_k fun K2 hK2 => ?_
  refine wp_region_lit ?_
  refine list_k rfl rfl hk (by decide) (by repeat' (first | exact far_nil _ | refine far_cons (by decide) ?_)) (v := .int .i64 ((off + 1 : Nat) : Int)) (do_move rfl (hk.at (mh))) ?_
  clear hk; intro a hk
  refine list_k rfl rfl hk (by decide) (by repeat' (first | exact far_nil _ | refine far_cons (by decide) ?_)) (v := .int .i64 ((m : Nat) : Int)) (do_move rfl (hk.at (mt (mt mh)))) ?_
  clear hk; intro a hk
  refine list_k rfl rfl hk (by decide) (by repeat' (first | exact far_nil _ | refine far_cons (by decide) ?_)) (v := .int .i64 ((off + 1 + m : Nat) : Int)) ((do_addN rfl Try.underlying3 (hk.at (mt mh)) (hk.at (mh)) (by rw [IntKind.wrap_i64]; omega))) ?_
  clear hk; intro a hk
  refine list_k rfl rfl hk (by decide) (by repeat' (first | exact far_nil _ | refine far_cons (by decide) ?_)) (v := .int .i64 ((off + 1 + m : Nat) : Int)) (do_assign rfl (hk.at (mh))) ?_
  clear hk; intro a hk
  refine hK2 _ _ ?_
  clear hK2
  have hk2 : Keeps 272 ([(13, .int .i64 ((off + 1 + m : Nat) : Int)), (12, .int .i64 ((off + 1 : Nat) : Int)), (6, .int .i64 ((m : Nat) : Int)), (0, .pointer (some ⟨gi, 0, none⟩))]) a := by
    refine ⟨hk.1, hk.2.1, fun x hx => hk.2.2 x ?_⟩
    rcases List.mem_cons.1 hx with rfl | hx
    · exact mh
    rcases List.mem_cons.1 hx with rfl | hx
    · exact mt (mt (mt (mt mh)))
    rcases List.mem_cons.1 hx with rfl | hx
    · exact mt (mt (mt (mt (mt mh))))
    rcases List.mem_cons.1 hx with rfl | hx
    · exact mt (mt (mt (mt (mt (mt mh)))))
    cases hx
  clear hk
  have hk := hk2
  clear hk2
  refine wp_seq_k fun K2 hK2 => ?_
  refine wp_region_lit ?_
  refine list_k rfl rfl hk (by decide) (by repeat' (first | exact far_nil _ | refine far_cons (by decide) ?_)) (v := .pointer (some ⟨gi, 0, none⟩)) (do_move rfl (hk.at (mt (mt (mt mh))))) ?_
  clear hk; intro a hk
  refine list_k rfl rfl hk (by decide) (by repeat' (first | exact far_nil _ | refine far_cons (by decide) ?_)) (v := .pointer (some ⟨gi, 0, none⟩)) (do_nilc rfl (hk.at (mh))) ?_
  clear hk; intro a hk
  refine list_k rfl rfl hk (by decide) (by repeat' (first | exact far_nil _ | refine far_cons (by decide) ?_)) (v := .pointer (some ⟨gi, 20, none⟩)) (do_fld79_1 rfl (hk.at (mh))) ?_
  clear hk; intro a hk
  refine list_k rfl rfl hk (by decide) (by repeat' (first | exact far_nil _ | refine far_cons (by decide) ?_)) (v := .slice (some ⟨bc, oc, none⟩) n cc) (do_ldB rfl Try.underlying22 rfl (hk.at (mh)) BI (itC_sl hk20)) ?_
  clear hk; intro a hk
  refine list_k rfl rfl hk (by decide) (by repeat' (first | exact far_nil _ | refine far_cons (by decide) ?_)) (v := .int .i64 ((off + 1 : Nat) : Int)) (do_move rfl (hk.at (mt (mt (mt (mt (mt mh))))))) ?_
  clear hk; intro a hk
  refine list_k rfl rfl hk (by decide) (by repeat' (first | exact far_nil _ | refine far_cons (by decide) ?_)) (v := .int .i64 ((off + 1 + m : Nat) : Int)) (do_move rfl (hk.at (mt (mt (mt (mt (mt mh))))))) ?_
  clear hk; intro a hk
  refine list_k rfl rfl hk (by decide) (by repeat' (first | exact far_nil _ | refine far_cons (by decide) ?_)) (v := .slice (some ⟨bc, oc + (off + 1), none⟩) m (cc - (off + 1))) (do_sliceM rfl Try.underlying22 (by kernel_rfl) (hk.at (mt (mt mh))) (hk.at (mt mh)) (hk.at (mh)) (by omega) (by omega)) ?_
  clear hk; intro a hk
  refine wp_call rfl (do_call1 rfl (hk.at (mh)) (ent1_v128 _)) (varint128d (rd_sub RC hd1 (by rw [be_length]; omega)) hm1 hm16 hd256) ?_
  rintro e w2 ⟨rfl, hbc⟩
  replace BI := BI.kept hbc
  replace RC := RC.kept hbc
  replace hG := grown_trans hG (grown_below hbc _)
  clear hbc
  refine ⟨_, rfl, ?_⟩
  refine keep_k (v := .agg (uN (d)).toArray) hk (by decide) (by repeat' (first | exact far_nil _ | refine far_cons (by decide) ?_)) ?_
  clear hk; intro a hk
  obtain ⟨q14, hq14⟩ : ∃ q, q = w2.heap.size := ⟨_, rfl⟩
  have hBq14 : w.heap.size ≤ q14 := by rw [hq14]; exact hG.size
  refine wp_alloc_blk u128Arr (Below.refl 0 w2) rfl rfl hq14.symm (Nat.zero_le _) ?_
  intro w3 B14 gg ss h0
  clear ss h0 hq14
  replace BI := BI.grown gg (by simp)
  replace RC := RC.grown gg (by simp)
  replace hG := grown_trans hG (grown_none gg _)
  clear gg
  refine keep_k (v := .pointer (some ⟨q14, 0, none⟩)) hk (by decide) (by repeat' (first | exact far_nil _ | refine far_cons (by decide) ?_)) ?_
  clear hk; intro a hk
  refine wp_store_blk u128Arr (Below.refl 0 w3) rfl rfl (hk.at (mh)) (cs := uN d) (hk.at (mt mh)) B14 (Nat.zero_le _) rfl rfl (uN_one _) ?_
  intro w4 B14n gg ss h0
  clear ss h0
  replace BI := BI.grown gg (by intro e; have := Option.some.inj e; omega)
  replace RC := RC.grown gg (by rintro x ⟨⟩ e; have e2 : bc = q14 := Option.some.inj e; omega)
  replace hG := grown_new hG gg hBq14
  clear gg B14
  have B14 := B14n
  clear B14n
  refine keep_0 hk ?_
  clear hk; intro a hk
  refine hK2 _ _ ?_
  clear hK2
  have hk2 : Keeps 272 ([(14, .pointer (some ⟨q14, 0, none⟩)), (13, .int .i64 ((off + 1 + m : Nat) : Int)), (6, .int .i64 ((m : Nat) : Int)), (0, .pointer (some ⟨gi, 0, none⟩))]) a := by
    refine ⟨hk.1, hk.2.1, fun x hx => hk.2.2 x ?_⟩
    rcases List.mem_cons.1 hx with rfl | hx
    · exact mh
    rcases List.mem_cons.1 hx with rfl | hx
    · exact mt (mt (mt (mt (mt (mt (mt (mt (mt mh))))))))
    rcases List.mem_cons.1 hx with rfl | hx
    · exact mt (mt (mt (mt (mt (mt (mt (mt (mt (mt (mt mh))))))))))
    rcases List.mem_cons.1 hx with rfl | hx
    · exact mt (mt (mt (mt (mt (mt (mt (mt (mt (mt (mt (mt mh)))))))))))
    cases hx
  clear hk
  have hk := hk2
  clear hk2
  refine wp_seq_k fun K2 hK2 => ?_
  have HM : ∀ (a : Act) (w' : World) (q15 : Nat), Keeps 272 [(15, .pointer (some ⟨q15, 0, none⟩)), (13, .int .i64 ((off + 1 + m : Nat) : Int)), (0, .pointer (some ⟨gi, 0, none⟩))] a → w.heap.size ≤ q15 → Blk w' q15 (uN (v + d)) 77 → Blk w' gi (itC (k) (.slice (some ⟨bc, oc, none⟩) n cc) (off + 1) (0) (t) (v)) ty → Rd w' (some ⟨bc, oc, none⟩) c → w.grownBy w' (some gi) → K2 a w' := by
    intro a w30 q15 hk hBq15 B15 BI RC hG
    refine hK2 _ _ ?_
    clear hK2
    refine wp_seq_k fun K2 hK2 => ?_
    refine region_plan2 (fun w' => Below w30.heap.size w30 w') [(0, 0), (1, 0), (2, 0), (3, 0), (4, 0), (5, 0), (6, 1), (7, 0), (8, 0), (9, 2)] rfl (by kernel_rfl) (by kernel_rfl) rfl (by intro c a d v w h; cases d <;> exact h) (fun _ _ h => h) ?_
    intro OPS w30d hpW hbd
    clear hpW
    refine plan_k rfl hk (by decide) (by repeat' (first | exact far_nil _ | refine far_cons (by decide) ?_)) (v := .pointer (some ⟨gi, 0, none⟩)) (fun o ho w' hS => do_move ho (hk.at (mt (mt mh)))) ?_
    clear hk; intro a hk
    refine plan_k rfl hk (by decide) (by repeat' (first | exact far_nil _ | refine far_cons (by decide) ?_)) (v := .agg (uN (v + d)).toArray) (fun o ho w' hS => do_ldA u128Arr ho (hk.at (mt mh)) (B15.kept hS) rfl) ?_
    clear hk; intro a hk
    refine plan_k rfl hk (by decide) (by repeat' (first | exact far_nil _ | refine far_cons (by decide) ?_)) (v := .pointer (some ⟨gi, 0, none⟩)) (fun o ho w' hS => do_move ho (hk.at (mt (mt (mt (mt mh)))))) ?_
    clear hk; intro a hk
    refine plan_k rfl hk (by decide) (by repeat' (first | exact far_nil _ | refine far_cons (by decide) ?_)) (v := .pointer (some ⟨gi, 0, none⟩)) (fun o ho w' hS => do_nilc ho (hk.at (mh))) ?_
    clear hk; intro a hk
    refine plan_k rfl hk (by decide) (by repeat' (first | exact far_nil _ | refine far_cons (by decide) ?_)) (v := .pointer (some ⟨gi, 23, none⟩)) (fun o ho w' hS => do_fld79_4 ho (hk.at (mh))) ?_
    clear hk; intro a hk
    refine plan_k rfl hk (by decide) (by repeat' (first | exact far_nil _ | refine far_cons (by decide) ?_)) (v := .int .u32 ((t : Nat) : Int)) (fun o ho w' hS => do_ldB ho Try.underlying53 rfl (hk.at (mh)) (BI.kept hS) (itC_ts hk20)) ?_
    clear hk; intro a hk
    refine plan_kw2 rfl fun o ho hd hgd => ?_
    refine wp_call hgd (do_call2 ho (hk.at (mt (mt (mt (mt mh))))) (hk.at (mh)) (ent2_ks _ _)) (ksuidN_ok (v + d) (t) _ (by omega) ht) ?_
    rintro e w31 ⟨rfl, hbc⟩
    have hS1 := hbd.trans (hbc.mono hbd.size)
    clear hbc hbd
    replace BI := BI.kept hS1
    replace RC := RC.kept hS1
    replace B15 := B15.kept hS1
    replace hG := grown_trans hG (grown_below hS1 _)
    refine ⟨_, rfl, ?_⟩
    rw [hd]
    refine keep_k (v := .agg (bvs (kid (t) (v + d))).toArray) hk (by decide) (by repeat' (first | exact far_nil _ | refine far_cons (by decide) ?_)) ?_
    clear hk; intro a hk
    refine ⟨hS1, ?_⟩
    refine plan_k rfl hk (by decide) (by repeat' (first | exact far_nil _ | refine far_cons (by decide) ?_)) (v := .pointer (some ⟨gi, 0, none⟩)) (fun o ho w' hS => do_nilc ho (hk.at (mt (mt (mt (mt (mt (mt mh)))))))) ?_
    clear hk; intro a hk
    refine plan_k rfl hk (by decide) (by repeat' (first | exact far_nil _ | refine far_cons (by decide) ?_)) (v := .pointer (some ⟨gi, 0, none⟩)) (fun o ho w' hS => do_fld79_0 ho (hk.at (mh))) ?_
    clear hk; intro a hk
    refine plan_kl2 rfl fun o ho hd hgd => ?_
    refine wp_store_part ksArr hgd ho (hk.at (mh)) (hk.at (mt (mt mh))) (by rw [bvs_length, kid_length]) (bvs_one _) BI (by rw [itC_length hk20]; decide) fun w32 BIn gg ss => ?_
    clear ss
    rw [itC_put_k hk20 (kid_length _ _)] at BIn
    replace RC := RC.grown gg (by rintro x ⟨⟩ e; have e2 : bc = gi := Option.some.inj e; omega)
    replace B15 := B15.grown gg (by intro e; have := Option.some.inj e; omega)
    replace hG := grown_trans hG gg
    clear gg BI
    have BI := BIn
    clear BIn
    rw [hd]
    refine keep_0 hk ?_
    clear hk; intro a hk
    show wpPlan _ OPS _ (fun w' => Below w30.heap.size w30 w') (planOps2 _ _) _ _
    refine plan_k0 ?_
    replace hk20 : (kid (t) (v + d)).length = 20 := kid_length _ _
    refine hK2 _ _ ?_
    clear hK2
    have hk2 : Keeps 272 ([(15, .pointer (some ⟨q15, 0, none⟩)), (13, .int .i64 ((off + 1 + m : Nat) : Int)), (0, .pointer (some ⟨gi, 0, none⟩))]) a := by
      refine ⟨hk.1, hk.2.1, fun x hx => hk.2.2 x ?_⟩
      rcases List.mem_cons.1 hx with rfl | hx
      · exact mt (mt (mt (mt (mt (mt (mt (mt (mt mh))))))))
      rcases List.mem_cons.1 hx with rfl | hx
      · exact mt (mt (mt (mt (mt (mt (mt (mt (mt (mt mh)))))))))
      rcases List.mem_cons.1 hx with rfl | hx
      · exact mt (mt (mt (mt (mt (mt (mt (mt (mt (mt (mt mh))))))))))
      cases hx
    clear hk
    have hk := hk2
    clear hk2
    refine wp_seq_k fun K2 hK2 => ?_
    refine wp_region_lit ?_
    refine list_k rfl rfl hk (by decide) (by repeat' (first | exact far_nil _ | refine far_cons (by decide) ?_)) (v := .pointer (some ⟨gi, 0, none⟩)) (do_move rfl (hk.at (mt (mt mh)))) ?_
    clear hk; intro a hk
    refine list_k rfl rfl hk (by decide) (by repeat' (first | exact far_nil _ | refine far_cons (by decide) ?_)) (v := .int .i64 ((off + 1 + m : Nat) : Int)) (do_move rfl (hk.at (mt (mt mh)))) ?_
    clear hk; intro a hk
    refine list_k rfl rfl hk (by decide) (by repeat' (first | exact far_nil _ | refine far_cons (by decide) ?_)) (v := .pointer (some ⟨gi, 0, none⟩)) (do_nilc rfl (hk.at (mt mh))) ?_
    clear hk; intro a hk
    refine list_k rfl rfl hk (by decide) (by repeat' (first | exact far_nil _ | refine far_cons (by decide) ?_)) (v := .pointer (some ⟨gi, 21, none⟩)) (do_fld79_2 rfl (hk.at (mh))) ?_
    clear hk; intro a hk
    refine wp_store_cell rfl rfl (by kernel_rfl) (hk.at (mh)) (hk.at (mt (mt mh))) rfl BI (by rw [itC_length hk20]; decide) fun w33 BIn gg ss => ?_
    clear ss
    rw [itC_set_off hk20] at BIn
    replace RC := RC.grown gg (by rintro x ⟨⟩ e; have e2 : bc = gi := Option.some.inj e; omega)
    replace B15 := B15.grown gg (by intro e; have := Option.some.inj e; omega)
    replace hG := grown_trans hG gg
    clear gg BI
    have BI := BIn
    clear BIn
    refine keep_0 hk ?_
    clear hk; intro a hk
    refine hK2 _ _ ?_
    clear hK2
    have hk2 : Keeps 272 ([(15, .pointer (some ⟨q15, 0, none⟩)), (13, .int .i64 ((off + 1 + m : Nat) : Int)), (0, .pointer (some ⟨gi, 0, none⟩))]) a := by
      refine ⟨hk.1, hk.2.1, fun x hx => hk.2.2 x ?_⟩
      rcases List.mem_cons.1 hx with rfl | hx
      · exact mt (mt (mt (mt mh)))
      rcases List.mem_cons.1 hx with rfl | hx
      · exact mt (mt (mt (mt (mt mh))))
      rcases List.mem_cons.1 hx with rfl | hx
      · exact mt (mt (mt (mt (mt (mt mh)))))
      cases hx
    clear hk
    have hk := hk2
    clear hk2
    refine wp_region_lit ?_
    refine list_k rfl rfl hk (by decide) (by repeat' (first | exact far_nil _ | refine far_cons (by decide) ?_)) (v := .pointer (some ⟨gi, 0, none⟩)) (do_move rfl (hk.at (mt (mt mh)))) ?_
    clear hk; intro a hk
    refine list_k rfl rfl hk (by decide) (by repeat' (first | exact far_nil _ | refine far_cons (by decide) ?_)) (v := .agg (uN (v + d)).toArray) (do_ldA u128Arr rfl (hk.at (mt mh)) B15 rfl) ?_
    clear hk; intro a hk
    refine list_k rfl rfl hk (by decide) (by repeat' (first | exact far_nil _ | refine far_cons (by decide) ?_)) (v := .pointer (some ⟨gi, 0, none⟩)) (do_nilc rfl (hk.at (mt mh))) ?_
    clear hk; intro a hk
    refine list_k rfl rfl hk (by decide) (by repeat' (first | exact far_nil _ | refine far_cons (by decide) ?_)) (v := .pointer (some ⟨gi, 24, none⟩)) (do_fld79_5 rfl (hk.at (mh))) ?_
    clear hk; intro a hk
    refine wp_store_part u128Arr rfl rfl (hk.at (mh)) (hk.at (mt (mt mh))) rfl (uN_one _) BI (by rw [itC_length hk20]; decide) fun w34 BIn gg ss => ?_
    clear ss
    rw [itC_put_v hk20] at BIn
    replace RC := RC.grown gg (by rintro x ⟨⟩ e; have e2 : bc = gi := Option.some.inj e; omega)
    replace B15 := B15.grown gg (by intro e; have := Option.some.inj e; omega)
    replace hG := grown_trans hG gg
    clear gg BI
    have BI := BIn
    clear BIn
    refine keep_0 hk ?_
    clear hk; intro a hk
    refine hK1 _ _ ?_
    clear hK1
    have hk2 : Keeps 272 ([(0, .pointer (some ⟨gi, 0, none⟩))]) a := by
      refine ⟨hk.1, hk.2.1, fun x hx => hk.2.2 x ?_⟩
      rcases List.mem_cons.1 hx with rfl | hx
      · exact mt (mt (mt (mt (mt (mt mh)))))
      cases hx
    clear hk
    have hk := hk2
    clear hk2
    refine wp_seq_k fun K2 hK2 => ?_
    refine wp_region_lit ?_
    refine list_k rfl rfl hk (by decide) (by repeat' (first | exact far_nil _ | refine far_cons (by decide) ?_)) (v := .bool true) (do_assign rfl rfl) ?_
    clear hk; intro a hk
    refine hK2 _ _ (wp_ret ?_)
    try simp only [Exit.inBlock, Exit.then]
    refine ret_tmp1 rfl hk.2.1 (hk.at mh) ?_
    exact ⟨rfl, BI, hG⟩
  clear hK2 hK1
  refine region_tree (fun w' => Below w4.heap.size w4 w') (.op 0 0 (.op 1 0 (.op 2 0 (.op 3 0 (.op 4 0 (.fork 5 6 (.op 6 1 (.op 7 2 .nil)) (.op 5 2 (.op 7 2 .nil)))))))) rfl (by kernel_rfl) (by kernel_rfl) (by decide) (by intro c a d v w h; cases d <;> exact h) (fun _ _ h => h) ?_
  intro wd hpW hbd
  clear hpW
  simp only [Tree.opers, List.getElem?_cons_succ, List.getElem?_cons_zero]
  refine tree_k rfl rfl hk (by decide) (by repeat' (first | exact far_nil _ | refine far_cons (by decide) ?_)) (v := .pointer (some ⟨gi, 0, none⟩)) (fun w' hS => do_move rfl (hk.at (mt (mt (mt mh))))) ?_
  clear hk; intro a hk
  refine tree_k rfl rfl hk (by decide) (by repeat' (first | exact far_nil _ | refine far_cons (by decide) ?_)) (v := .pointer (some ⟨gi, 0, none⟩)) (fun w' hS => do_nilc rfl (hk.at (mh))) ?_
  clear hk; intro a hk
  refine tree_k rfl rfl hk (by decide) (by repeat' (first | exact far_nil _ | refine far_cons (by decide) ?_)) (v := .pointer (some ⟨gi, 24, none⟩)) (fun w' hS => do_fld79_5 rfl (hk.at (mh))) ?_
  clear hk; intro a hk
  refine tree_k rfl rfl hk (by decide) (by repeat' (first | exact far_nil _ | refine far_cons (by decide) ?_)) (v := .agg (uN (v)).toArray) (fun w' hS => do_ldP u128Arr rfl (hk.at (mh)) (BI.kept hS) (itC_v hk20) rfl) ?_
  clear hk; intro a hk
  refine tree_k rfl rfl hk (by decide) (by repeat' (first | exact far_nil _ | refine far_cons (by decide) ?_)) (v := .agg (uN (d)).toArray) (fun w' hS => do_ldA u128Arr rfl (hk.at (mt (mt (mt (mt mh))))) (B14.kept hS) rfl) ?_
  clear hk; intro a hk
  refine tree_fork ?_ ?_
  · have hS0 := hbd
    have C := fun (w1 : World) => addN_ok v d w1 hvd
    refine wp_call rfl (do_call2 rfl (hk.at (mt mh)) (hk.at (mh)) (ent2_add _ _)) (C _) ?_
    rintro e w31 ⟨rfl, hbc⟩
    have hS1 := hbd.trans (hbc.mono hbd.size)
    refine ⟨_, rfl, ?_⟩
    refine keep_k (v := .agg (uN (v + d)).toArray) hk (by decide) (by repeat' (first | exact far_nil _ | refine far_cons (by decide) ?_)) ?_
    clear hk; intro a hk
    refine ⟨hS1, ?_⟩
    refine tree_do ?_
    obtain ⟨q15, hq15⟩ : ∃ q, q = w31.heap.size := ⟨_, rfl⟩
    refine wp_alloc_blk u128Arr (Below.refl 0 _) rfl rfl hq15.symm (Nat.zero_le _) ?_
    intro w32 B15 gg ss h0
    clear ss h0
    have hS2 := hS1.grown gg hS1.size (by simp)
    refine keep_k (v := .pointer (some ⟨q15, 0, none⟩)) hk (by decide) (by repeat' (first | exact far_nil _ | refine far_cons (by decide) ?_)) ?_
    clear hk; intro a hk
    refine ⟨hS2, ?_⟩
    have hq : w4.heap.size ≤ q15 := by rw [hq15]; exact hS1.size
    refine tree_last ?_
    refine wp_store_blk u128Arr (Below.refl 0 _) rfl rfl (hk.at (mh)) (cs := uN (v + d)) (hk.at (mt mh)) B15 (Nat.zero_le _) rfl rfl (uN_one _) ?_
    intro w33 B15n gg2 ss h0
    clear ss h0
    refine keep_0 hk ?_
    clear hk; intro a hk
    show K2 a w33
    have hS3 := hS2.grown gg2 hS2.size (by rintro j ⟨⟩; exact hq)
    exact HM _ _ q15 (hk.sub (fun x hx => by simp at hx ⊢; rcases hx with rfl | rfl | rfl <;> simp)) (Nat.le_trans hG.size hq) B15n (BI.kept hS3) (RC.kept hS3) (grown_trans hG (grown_below hS3 _))
  · have hS0 := hbd
    have C := fun (w1 : World) => addN_ok v d w1 hvd
    obtain ⟨q15, hq15⟩ : ∃ q, q = wd.heap.size := ⟨_, rfl⟩
    refine wp_alloc_blk u128Arr (Below.refl 0 _) rfl rfl hq15.symm (Nat.zero_le _) ?_
    intro w31 B15 gg ss h0
    clear ss h0
    have hS1 := hbd.grown gg hbd.size (by simp)
    refine keep_k (v := .pointer (some ⟨q15, 0, none⟩)) hk (by decide) (by repeat' (first | exact far_nil _ | refine far_cons (by decide) ?_)) ?_
    clear hk; intro a hk
    refine ⟨hS1, ?_⟩
    have hq : w4.heap.size ≤ q15 := by rw [hq15]; exact hbd.size
    refine tree_last ?_
    refine wp_call rfl (do_call2 rfl (hk.at (mt (mt mh))) (hk.at (mt mh)) (ent2_add _ _)) (C _) ?_
    rintro e w32 ⟨rfl, hbc⟩
    have hS2 := hS1.trans (hbc.mono hS1.size)
    replace B15 := B15.kept hbc
    refine ⟨_, rfl, ?_⟩
    refine keep_k (v := .agg (uN (v + d)).toArray) hk (by decide) (by repeat' (first | exact far_nil _ | refine far_cons (by decide) ?_)) ?_
    clear hk; intro a hk
    refine nil_then ?_
    refine tree_last ?_
    refine wp_store_blk u128Arr (Below.refl 0 _) rfl rfl (hk.at (mt mh)) (cs := uN (v + d)) (hk.at (mh)) B15 (Nat.zero_le _) rfl rfl (uN_one _) ?_
    intro w33 B15n gg2 ss h0
    clear ss h0
    refine keep_0 hk ?_
    clear hk; intro a hk
    show K2 a w33
    have hS3 := hS2.grown gg2 hS2.size (by rintro j ⟨⟩; exact hq)
    exact HM _ _ q15 (hk.sub (fun x hx => by simp at hx ⊢; rcases hx with rfl | rfl | rfl <;> simp)) (Nat.le_trans hG.size hq) B15n (BI.kept hS3) (RC.kept hS3) (grown_trans hG (grown_below hS3 _))
end Go.Proofs.Ytbacbgicfomkbaa
