/- Contract of CompressedSetIter.Next: a later time. -/
import Derived.Test.YtbacbgicfomkbaaKNextS
namespace Go.Proofs.Ytbacbgicfomkbaa
open Go.RowKit
set_option linter.unusedVariables false
set_option linter.unusedSimpArgs false
set_option maxRecDepth 100000 in
set_option maxHeartbeats 1000000 in
theorem next_time (gi bc oc cc off n t v d m : Nat) (k c p b : List UInt8) (ty : TypeId) (w : World) (hk20 : k.length = 20) (BI : Blk w gi (itC (k) (.slice (some ⟨bc, oc, none⟩) n cc) (off) (0) (t) (v)) ty) (RC : Rd w (some ⟨bc, oc, none⟩) c) (hcn : c.length = n) (hncc : n ≤ cc) (hn2 : n ≤ 100000) (hne : bc ≠ gi) (ht : t < 4294967296) (hm1 : 1 ≤ m) (hm4 : m ≤ 4) (hd256 : d < 256 ^ m) (htd : t + d < 4294967296) (hp : p.length = 16) (hd : c.drop off = UInt8.ofNat (64 + m) :: (be m d ++ (p ++ b))) :
    Calls Try.prog 47 #[.pointer (some ⟨gi, 0, none⟩)] w fun e w' => e = .returned (.bool true) ∧ Blk w' gi (itC (be 4 (t + d) ++ p) (.slice (some ⟨bc, oc, none⟩) n cc) (off + 1 + m + 16) (0) (t + d) (num p)) ty ∧ w.grownBy w' (some gi) := by
  have hlt := BI.lt
  obtain ⟨htag, hoc, hd1⟩ := B_of_drop hd
  have hon : off < n := by omega
  have hbcw : bc < w.heap.size := (rd_addr RC (by omega) _ rfl).2
  have hdl := congrArg List.length hd1
  rw [List.length_drop, hcn] at hdl
  rw [toNat_of _ (by omega)] at htag
  have hd2 : c.drop (off + 1 + m) = p ++ b := by
    rw [← List.drop_drop, hd1, List.drop_left' (be_length m d)]
  rw [List.length_append, List.length_append, be_length, hp] at hdl
  go_enter Try.func47, Try.ntmps47
  refine of_keeps 272 [(0, .pointer (some ⟨gi, 0, none⟩))] ⟨by kernel_rfl, rfl, fun x hx => by simp at hx; rcases hx with rfl; rfl⟩ fun a hk => ?_
  have hG : w.grownBy w (some gi) := World.grownBy.refl _ _
  refine wp_seq_k fun K0 hK0 => ?_
  refine wp_region_lit ?_
  refine list_k rfl rfl hk (by decide) (by repeat' (first | exact far_nil _ | refine far_cons (by decide) ?_)) (v := .bool false) (do_assign rfl rfl) ?_
  clear hk; intro a hk
  refine hK0 _ _ ?_
  clear hK0
  have hk2 : Keeps 272 ([(0, .pointer (some ⟨gi, 0, none⟩))]) a := by
    refine ⟨hk.1, hk.2.1, fun x hx => hk.2.2 x ?_⟩
    rcases List.mem_cons.1 hx with rfl | hx
    · exact mt mh
    cases hx
  clear hk
  have hk := hk2
  clear hk2
  refine wp_seq_k fun K1 hK1 => ?_
  refine wp_seq_k fun K2 hK2 => ?_
  refine wp_region_lit ?_
  refine list_k rfl rfl hk (by decide) (by repeat' (first | exact far_nil _ | refine far_cons (by decide) ?_)) (v := .pointer (some ⟨gi, 0, none⟩)) (do_move rfl (hk.at (mh))) ?_
  clear hk; intro a hk
  refine list_k rfl rfl hk (by decide) (by repeat' (first | exact far_nil _ | refine far_cons (by decide) ?_)) (v := .pointer (some ⟨gi, 0, none⟩)) (do_nilc rfl (hk.at (mh))) ?_
  clear hk; intro a hk
  refine list_k rfl rfl hk (by decide) (by repeat' (first | exact far_nil _ | refine far_cons (by decide) ?_)) (v := .pointer (some ⟨gi, 22, none⟩)) (do_fld79_3 rfl (hk.at (mh))) ?_
  clear hk; intro a hk
  refine list_k rfl rfl hk (by decide) (by repeat' (first | exact far_nil _ | refine far_cons (by decide) ?_)) (v := .int .u64 ((0 : Nat) : Int)) (do_ldB rfl Try.underlying30 rfl (hk.at (mh)) BI (itC_seq hk20)) ?_
  clear hk; intro a hk
  refine list_k rfl rfl hk (by decide) (by repeat' (first | exact far_nil _ | refine far_cons (by decide) ?_)) (v := .bool false) ((do_neF (n := 0) rfl Try.underlying30 (hk.at (mh)) rfl rfl)) ?_
  clear hk; intro a hk
  refine hK2 _ _ (wp_cond_false (hk.at mh) ?_)
  clear hK2
  refine wp_skip (hK1 _ _ ?_)
  clear hK1
  have hk2 : Keeps 272 ([(0, .pointer (some ⟨gi, 0, none⟩))]) a := by
    refine ⟨hk.1, hk.2.1, fun x hx => hk.2.2 x ?_⟩
    rcases List.mem_cons.1 hx with rfl | hx
    · exact mt (mt (mt (mt (mt mh))))
    cases hx
  clear hk
  have hk := hk2
  clear hk2
  refine wp_seq_k fun K1 hK1 => ?_
  refine wp_seq_k fun K2 hK2 => ?_
  refine region_plan2 (fun w' => Below w.heap.size w w') [(0, 0), (1, 0), (2, 0), (3, 0), (4, 0), (5, 0), (6, 0), (7, 0), (8, 0), (9, 0)] rfl (by kernel_rfl) (by kernel_rfl) rfl (by intro c a d v w h; cases d <;> exact h) (fun _ _ h => h) ?_
  intro OPS wd hpW hbd
  clear hpW
  refine plan_k rfl hk (by decide) (by repeat' (first | exact far_nil _ | refine far_cons (by decide) ?_)) (v := .pointer (some ⟨gi, 0, none⟩)) (fun o ho w' hS => do_move ho (hk.at (mh))) ?_
  clear hk; intro a hk
  refine plan_k rfl hk (by decide) (by repeat' (first | exact far_nil _ | refine far_cons (by decide) ?_)) (v := .pointer (some ⟨gi, 0, none⟩)) (fun o ho w' hS => do_nilc ho (hk.at (mh))) ?_
  clear hk; intro a hk
  refine plan_k rfl hk (by decide) (by repeat' (first | exact far_nil _ | refine far_cons (by decide) ?_)) (v := .pointer (some ⟨gi, 21, none⟩)) (fun o ho w' hS => do_fld79_2 ho (hk.at (mh))) ?_
  clear hk; intro a hk
  refine plan_k rfl hk (by decide) (by repeat' (first | exact far_nil _ | refine far_cons (by decide) ?_)) (v := .int .i64 ((off : Nat) : Int)) (fun o ho w' hS => do_ldB ho Try.underlying3 rfl (hk.at (mh)) (BI.kept hS) (itC_off hk20)) ?_
  clear hk; intro a hk
  refine plan_k rfl hk (by decide) (by repeat' (first | exact far_nil _ | refine far_cons (by decide) ?_)) (v := .pointer (some ⟨gi, 0, none⟩)) (fun o ho w' hS => do_move ho (hk.at (mt (mt (mt (mt mh)))))) ?_
  clear hk; intro a hk
  refine plan_k rfl hk (by decide) (by repeat' (first | exact far_nil _ | refine far_cons (by decide) ?_)) (v := .pointer (some ⟨gi, 0, none⟩)) (fun o ho w' hS => do_nilc ho (hk.at (mh))) ?_
  clear hk; intro a hk
  refine plan_k rfl hk (by decide) (by repeat' (first | exact far_nil _ | refine far_cons (by decide) ?_)) (v := .pointer (some ⟨gi, 20, none⟩)) (fun o ho w' hS => do_fld79_1 ho (hk.at (mh))) ?_
  clear hk; intro a hk
  refine plan_k rfl hk (by decide) (by repeat' (first | exact far_nil _ | refine far_cons (by decide) ?_)) (v := .slice (some ⟨bc, oc, none⟩) n cc) (fun o ho w' hS => do_ldB ho Try.underlying22 rfl (hk.at (mh)) (BI.kept hS) (itC_sl hk20)) ?_
  clear hk; intro a hk
  refine plan_k rfl hk (by decide) (by repeat' (first | exact far_nil _ | refine far_cons (by decide) ?_)) (v := .int .i64 ((n : Nat) : Int)) (fun o ho w' hS => do_lenS ho (hk.at (mh)) Try.underlying22) ?_
  clear hk; intro a hk
  refine plan_k rfl hk (by decide) (by repeat' (first | exact far_nil _ | refine far_cons (by decide) ?_)) (v := .bool false) (fun o ho w' hS => (do_eqF ho Try.underlying3 (hk.at (mt (mt (mt (mt (mt mh)))))) (hk.at (mh)) (by omega))) ?_
  clear hk; intro a hk
  refine plan_k0 ?_
  replace BI := BI.kept hbd
  replace RC := RC.kept hbd
  replace hG := grown_trans hG (grown_below hbd _)
  clear hbd
  
  refine hK2 _ _ (wp_cond_false (hk.at mh) ?_)
  clear hK2
  refine wp_skip (hK1 _ _ ?_)
  clear hK1
  have hk2 : Keeps 272 ([(0, .pointer (some ⟨gi, 0, none⟩))]) a := by
    refine ⟨hk.1, hk.2.1, fun x hx => hk.2.2 x ?_⟩
    rcases List.mem_cons.1 hx with rfl | hx
    · exact mt (mt (mt (mt (mt (mt (mt (mt (mt (mt mh)))))))))
    cases hx
  clear hk
  have hk := hk2
  clear hk2
  refine wp_seq_k fun K1 hK1 => ?_
  refine region_plan2 (fun w' => Below wd.heap.size wd w') [(0, 0), (1, 0), (2, 0), (3, 0), (4, 0), (5, 0), (6, 0), (7, 0), (8, 0), (9, 0), (10, 0)] rfl (by kernel_rfl) (by kernel_rfl) rfl (by intro c a d v w h; cases d <;> exact h) (fun _ _ h => h) ?_
  intro OPS wdd hpW hbd
  clear hpW
  refine plan_k rfl hk (by decide) (by repeat' (first | exact far_nil _ | refine far_cons (by decide) ?_)) (v := .pointer (some ⟨gi, 0, none⟩)) (fun o ho w' hS => do_move ho (hk.at (mh))) ?_
  clear hk; intro a hk
  refine plan_k rfl hk (by decide) (by repeat' (first | exact far_nil _ | refine far_cons (by decide) ?_)) (v := .pointer (some ⟨gi, 0, none⟩)) (fun o ho w' hS => do_nilc ho (hk.at (mh))) ?_
  clear hk; intro a hk
  refine plan_k rfl hk (by decide) (by repeat' (first | exact far_nil _ | refine far_cons (by decide) ?_)) (v := .pointer (some ⟨gi, 20, none⟩)) (fun o ho w' hS => do_fld79_1 ho (hk.at (mh))) ?_
  clear hk; intro a hk
  refine plan_k rfl hk (by decide) (by repeat' (first | exact far_nil _ | refine far_cons (by decide) ?_)) (v := .slice (some ⟨bc, oc, none⟩) n cc) (fun o ho w' hS => do_ldB ho Try.underlying22 rfl (hk.at (mh)) (BI.kept hS) (itC_sl hk20)) ?_
  clear hk; intro a hk
  refine plan_k rfl hk (by decide) (by repeat' (first | exact far_nil _ | refine far_cons (by decide) ?_)) (v := .pointer (some ⟨gi, 0, none⟩)) (fun o ho w' hS => do_move ho (hk.at (mt (mt (mt (mt mh)))))) ?_
  clear hk; intro a hk
  refine plan_k rfl hk (by decide) (by repeat' (first | exact far_nil _ | refine far_cons (by decide) ?_)) (v := .pointer (some ⟨gi, 0, none⟩)) (fun o ho w' hS => do_nilc ho (hk.at (mh))) ?_
  clear hk; intro a hk
  refine plan_k rfl hk (by decide) (by repeat' (first | exact far_nil _ | refine far_cons (by decide) ?_)) (v := .pointer (some ⟨gi, 21, none⟩)) (fun o ho w' hS => do_fld79_2 ho (hk.at (mh))) ?_
  clear hk; intro a hk
  refine plan_k rfl hk (by decide) (by repeat' (first | exact far_nil _ | refine far_cons (by decide) ?_)) (v := .int .i64 ((off : Nat) : Int)) (fun o ho w' hS => do_ldB ho Try.underlying3 rfl (hk.at (mh)) (BI.kept hS) (itC_off hk20)) ?_
  clear hk; intro a hk
  refine plan_k rfl hk (by decide) (by repeat' (first | exact far_nil _ | refine far_cons (by decide) ?_)) (v := .pointer (some ⟨bc, oc + off, none⟩)) (fun o ho w' hS => still_index (S := fun _ => True) ho Try.underlying22 (by kernel_rfl) (hk.at (mt (mt (mt (mt mh))))) off (hk.at (mh)) hon _ trivial) ?_
  clear hk; intro a hk
  refine plan_k rfl hk (by decide) (by repeat' (first | exact far_nil _ | refine far_cons (by decide) ?_)) (v := .int .u8 ((64 + m : Nat) : Int)) (fun o ho w' hS => do_ldC ho Try.underlying5 rfl (hk.at (mh)) (by rw [← htag]; exact rd_cell (RC.kept hS) off hoc)) ?_
  clear hk; intro a hk
  refine plan_k rfl hk (by decide) (by repeat' (first | exact far_nil _ | refine far_cons (by decide) ?_)) (v := .int .u8 ((64 + m : Nat) : Int)) (fun o ho w' hS => do_assign ho (hk.at (mh))) ?_
  clear hk; intro a hk
  refine plan_k0 ?_
  replace BI := BI.kept hbd
  replace RC := RC.kept hbd
  replace hG := grown_trans hG (grown_below hbd _)
  clear hbd
  
  refine hK1 _ _ ?_
  clear hK1
  have hk2 : Keeps 272 ([(4, .int .u8 ((64 + m : Nat) : Int)), (0, .pointer (some ⟨gi, 0, none⟩))]) a := by
    refine ⟨hk.1, hk.2.1, fun x hx => hk.2.2 x ?_⟩
    rcases List.mem_cons.1 hx with rfl | hx
    · exact mh
    rcases List.mem_cons.1 hx with rfl | hx
    · exact mt (mt (mt (mt (mt (mt (mt (mt (mt (mt (mt mh))))))))))
    cases hx
  clear hk
  have hk := hk2
  clear hk2
  refine wp_seq_k fun K1 hK1 => ?_
  refine wp_region_lit ?_
  refine list_k rfl rfl hk (by decide) (by repeat' (first | exact far_nil _ | refine far_cons (by decide) ?_)) (v := .pointer (some ⟨gi, 0, none⟩)) (do_move rfl (hk.at (mt mh))) ?_
  clear hk; intro a hk
  refine list_k rfl rfl hk (by decide) (by repeat' (first | exact far_nil _ | refine far_cons (by decide) ?_)) (v := .pointer (some ⟨gi, 0, none⟩)) (do_nilc rfl (hk.at (mh))) ?_
  clear hk; intro a hk
  refine list_k rfl rfl hk (by decide) (by repeat' (first | exact far_nil _ | refine far_cons (by decide) ?_)) (v := .pointer (some ⟨gi, 21, none⟩)) (do_fld79_2 rfl (hk.at (mh))) ?_
  clear hk; intro a hk
  refine list_k rfl rfl hk (by decide) (by repeat' (first | exact far_nil _ | refine far_cons (by decide) ?_)) (v := .int .i64 ((off : Nat) : Int)) (do_ldB rfl Try.underlying3 rfl (hk.at (mh)) BI (itC_off hk20)) ?_
  clear hk; intro a hk
  refine list_k rfl rfl hk (by decide) (by repeat' (first | exact far_nil _ | refine far_cons (by decide) ?_)) (v := .int .i64 ((off + 1 : Nat) : Int)) ((do_addN (n := 1) rfl Try.underlying3 (hk.at (mh)) rfl (by rw [IntKind.wrap_i64]; omega))) ?_
  clear hk; intro a hk
  refine list_k rfl rfl hk (by decide) (by repeat' (first | exact far_nil _ | refine far_cons (by decide) ?_)) (v := .pointer (some ⟨gi, 0, none⟩)) (do_nilc rfl (hk.at (mt (mt (mt (mt mh)))))) ?_
  clear hk; intro a hk
  refine list_k rfl rfl hk (by decide) (by repeat' (first | exact far_nil _ | refine far_cons (by decide) ?_)) (v := .pointer (some ⟨gi, 21, none⟩)) (do_fld79_2 rfl (hk.at (mh))) ?_
  clear hk; intro a hk
  refine wp_store_cell rfl rfl (by kernel_rfl) (hk.at (mh)) (hk.at (mt (mt mh))) rfl BI (by rw [itC_length hk20]; decide) fun w1 BIn gg ss => ?_
  clear ss
  rw [itC_set_off hk20] at BIn
  replace RC := RC.grown gg (by rintro x ⟨⟩ e; have e2 : bc = gi := Option.some.inj e; omega)
  replace hG := grown_trans hG gg
  clear gg BI
  have BI := BIn
  clear BIn
  refine keep_0 hk ?_
  clear hk; intro a hk
  refine hK1 _ _ ?_
  clear hK1
  have hk2 : Keeps 272 ([(4, .int .u8 ((64 + m : Nat) : Int)), (0, .pointer (some ⟨gi, 0, none⟩))]) a := by
    refine ⟨hk.1, hk.2.1, fun x hx => hk.2.2 x ?_⟩
    rcases List.mem_cons.1 hx with rfl | hx
    · exact mt (mt (mt (mt (mt (mt (mt mh))))))
    rcases List.mem_cons.1 hx with rfl | hx
    · exact mt (mt (mt (mt (mt (mt (mt (mt mh)))))))
    cases hx
  clear hk
  have hk := hk2
  clear hk2
  refine wp_seq_k fun K1 hK1 => ?_
  refine wp_region_lit ?_
  refine list_k rfl rfl hk (by decide) (by repeat' (first | exact far_nil _ | refine far_cons (by decide) ?_)) (v := .int .u8 ((64 + m : Nat) : Int)) (do_move rfl (hk.at (mh))) ?_
  clear hk; intro a hk
  refine list_k rfl rfl hk (by decide) (by repeat' (first | exact far_nil _ | refine far_cons (by decide) ?_)) (v := .int .i64 ((64 + m : Nat) : Int)) (do_cvtN rfl Try.underlying5 Try.underlying3 (hk.at (mh)) (by rw [IntKind.wrap_i64]; omega)) ?_
  clear hk; intro a hk
  refine list_k rfl rfl hk (by decide) (by repeat' (first | exact far_nil _ | refine far_cons (by decide) ?_)) (v := .int .i64 ((64 : Nat) : Int)) (do_andC rfl Try.underlying3 (hk.at (mh)) (tag64 ⟨m, by omega⟩).1) ?_
  clear hk; intro a hk
  refine list_k rfl rfl hk (by decide) (by repeat' (first | exact far_nil _ | refine far_cons (by decide) ?_)) (v := .int .i64 ((64 : Nat) : Int)) (do_assign rfl (hk.at (mh))) ?_
  clear hk; intro a hk
  refine hK1 _ _ ?_
  clear hK1
  have hk2 : Keeps 272 ([(5, .int .i64 ((64 : Nat) : Int)), (4, .int .u8 ((64 + m : Nat) : Int)), (0, .pointer (some ⟨gi, 0, none⟩))]) a := by
    refine ⟨hk.1, hk.2.1, fun x hx => hk.2.2 x ?_⟩
    rcases List.mem_cons.1 hx with rfl | hx
    · exact mh
    rcases List.mem_cons.1 hx with rfl | hx
    · exact mt (mt (mt (mt mh)))
    rcases List.mem_cons.1 hx with rfl | hx
    · exact mt (mt (mt (mt (mt mh))))
    cases hx
  clear hk
  have hk := hk2
  clear hk2
  refine wp_seq_k fun K1 hK1 => ?_
  refine wp_region_lit ?_
  refine list_k rfl rfl hk (by decide) (by repeat' (first | exact far_nil _ | refine far_cons (by decide) ?_)) (v := .int .u8 ((64 + m : Nat) : Int)) (do_move rfl (hk.at (mt mh))) ?_
  clear hk; intro a hk
  refine list_k rfl rfl hk (by decide) (by repeat' (first | exact far_nil _ | refine far_cons (by decide) ?_)) (v := .int .i64 ((64 + m : Nat) : Int)) (do_cvtN rfl Try.underlying5 Try.underlying3 (hk.at (mh)) (by rw [IntKind.wrap_i64]; omega)) ?_
  clear hk; intro a hk
  refine list_k rfl rfl hk (by decide) (by repeat' (first | exact far_nil _ | refine far_cons (by decide) ?_)) (v := .int .i64 ((m : Nat) : Int)) (do_andC rfl Try.underlying3 (hk.at (mh)) (tag64 ⟨m, by omega⟩).2) ?_
  clear hk; intro a hk
  refine list_k rfl rfl hk (by decide) (by repeat' (first | exact far_nil _ | refine far_cons (by decide) ?_)) (v := .int .i64 ((m : Nat) : Int)) (do_assign rfl (hk.at (mh))) ?_
  clear hk; intro a hk
  refine hK1 _ _ ?_
  clear hK1
  have hk2 : Keeps 272 ([(6, .int .i64 ((m : Nat) : Int)), (5, .int .i64 ((64 : Nat) : Int)), (0, .pointer (some ⟨gi, 0, none⟩))]) a := by
    refine ⟨hk.1, hk.2.1, fun x hx => hk.2.2 x ?_⟩
    rcases List.mem_cons.1 hx with rfl | hx
    · exact mh
    rcases List.mem_cons.1 hx with rfl | hx
    · exact mt (mt (mt (mt mh)))
    rcases List.mem_cons.1 hx with rfl | hx
    · exact mt (mt (mt (mt (mt (mt mh)))))
    cases hx
  clear hk
  have hk := hk2
  clear hk2
  refine wp_seq_k fun K1 hK1 => ?_
  refine wp_seq_k fun K2 hK2 => ?_
  refine wp_region_lit ?_
  refine list_k rfl rfl hk (by decide) (by repeat' (first | exact far_nil _ | refine far_cons (by decide) ?_)) (v := .int .i64 ((64 : Nat) : Int)) (do_move rfl (hk.at (mt mh))) ?_
  clear hk; intro a hk
  refine hK2 _ _ ?_
  clear hK2
  have hk2 : Keeps 272 ([(82, .int .i64 ((64 : Nat) : Int)), (6, .int .i64 ((m : Nat) : Int)), (0, .pointer (some ⟨gi, 0, none⟩))]) a := by
    refine ⟨hk.1, hk.2.1, fun x hx => hk.2.2 x ?_⟩
    rcases List.mem_cons.1 hx with rfl | hx
    · exact mh
    rcases List.mem_cons.1 hx with rfl | hx
    · exact mt mh
    rcases List.mem_cons.1 hx with rfl | hx
    · exact mt (mt (mt mh))
    cases hx
  clear hk
  have hk := hk2
  clear hk2
  refine wp_block ?_
  refine wp_seq_k fun K2 hK2 => ?_
  refine wp_region_lit ?_
  refine list_k rfl rfl hk (by decide) (by repeat' (first | exact far_nil _ | refine far_cons (by decide) ?_)) (v := .bool false) ((do_eqF (m := 64) (n := 0) rfl Try.underlying3 (hk.at (mh)) rfl (by decide))) ?_
  clear hk; intro a hk
  refine list_k rfl rfl hk (by decide) (by repeat' (first | exact far_nil _ | refine far_cons (by decide) ?_)) (v := .bool false) (do_assign rfl (hk.at (mh))) ?_
  clear hk; intro a hk
  refine hK2 _ _ (wp_cond_false (hk.at mh) ?_)
  clear hK2
  have hk2 : Keeps 272 ([(82, .int .i64 ((64 : Nat) : Int)), (6, .int .i64 ((m : Nat) : Int)), (0, .pointer (some ⟨gi, 0, none⟩))]) a := by
    refine ⟨hk.1, hk.2.1, fun x hx => hk.2.2 x ?_⟩
    rcases List.mem_cons.1 hx with rfl | hx
    · exact mt (mt mh)
    rcases List.mem_cons.1 hx with rfl | hx
    · exact mt (mt (mt mh))
    rcases List.mem_cons.1 hx with rfl | hx
    · exact mt (mt (mt (mt mh)))
    cases hx
  clear hk
  have hk := hk2
  clear hk2
  refine wp_seq_k fun K2 hK2 => ?_
  refine wp_region_lit ?_
  refine list_k rfl rfl hk (by decide) (by repeat' (first | exact far_nil _ | refine far_cons (by decide) ?_)) (v := .bool true) ((do_eqT (m := 64) (n := 64) rfl Try.underlying3 (hk.at (mh)) rfl rfl)) ?_
  clear hk; intro a hk
  refine list_k rfl rfl hk (by decide) (by repeat' (first | exact far_nil _ | refine far_cons (by decide) ?_)) (v := .bool true) (do_assign rfl (hk.at (mh))) ?_
  clear hk; intro a hk
  refine hK2 _ _ (wp_cond_true (hk.at mh) ?_)
  clear hK2
  have hk2 : Keeps 272 ([(82, .int .i64 ((64 : Nat) : Int)), (6, .int .i64 ((m : Nat) : Int)), (0, .pointer (some ⟨gi, 0, none⟩))]) a := by
    refine ⟨hk.1, hk.2.1, fun x hx => hk.2.2 x ?_⟩
    rcases List.mem_cons.1 hx with rfl | hx
    · exact mt (mt mh)
    rcases List.mem_cons.1 hx with rfl | hx
    · exact mt (mt (mt mh))
    rcases List.mem_cons.1 hx with rfl | hx
    · exact mt (mt (mt (mt mh)))
    cases hx
  clear hk
  have hk := hk2
  clear hk2
  refine wp_seq_k fun K2 hK2 => ?_
  refine wp_region_lit ?_
  refine list_k rfl rfl hk (by decide) (by repeat' (first | exact far_nil _ | refine far_cons (by decide) ?_)) (v := .pointer (some ⟨gi, 0, none⟩)) (do_move rfl (hk.at (mt (mt mh)))) ?_
  clear hk; intro a hk
  refine list_k rfl rfl hk (by decide) (by repeat' (first | exact far_nil _ | refine far_cons (by decide) ?_)) (v := .pointer (some ⟨gi, 0, none⟩)) (do_nilc rfl (hk.at (mh))) ?_
  clear hk; intro a hk
  refine list_k rfl rfl hk (by decide) (by repeat' (first | exact far_nil _ | refine far_cons (by decide) ?_)) (v := .pointer (some ⟨gi, 21, none⟩)) (do_fld79_2 rfl (hk.at (mh))) ?_
  clear hk; intro a hk
  refine list_k rfl rfl hk (by decide) (by repeat' (first | exact far_nil _ | refine far_cons (by decide) ?_)) (v := .int .i64 ((off + 1 : Nat) : Int)) (do_ldB rfl Try.underlying3 rfl (hk.at (mh)) BI (itC_off hk20)) ?_
  clear hk; intro a hk
  refine list_k rfl rfl hk (by decide) (by repeat' (first | exact far_nil _ | refine far_cons (by decide) ?_)) (v := .int .i64 ((off + 1 : Nat) : Int)) (do_assign rfl (hk.at (mh))) ?_
  clear hk; intro a hk
  refine hK2 _ _ ?_
  clear hK2
  have hk2 : Keeps 272 ([(9, .int .i64 ((off + 1 : Nat) : Int)), (6, .int .i64 ((m : Nat) : Int)), (0, .pointer (some ⟨gi, 0, none⟩))]) a := by
    refine ⟨hk.1, hk.2.1, fun x hx => hk.2.2 x ?_⟩
    rcases List.mem_cons.1 hx with rfl | hx
    · exact mh
    rcases List.mem_cons.1 hx with rfl | hx
    · exact mt (mt (mt (mt (mt (mt mh)))))
    rcases List.mem_cons.1 hx with rfl | hx
    · exact mt (mt (mt (mt (mt (mt (mt mh))))))
    cases hx
  clear hk
  have hk := hk2
  clear hk2
  refine wp_seq_k fun K2 hK2 => ?_
  refine wp_region_lit ?_
  refine list_k rfl rfl hk (by decide) (by repeat' (first | exact far_nil _ | refine far_cons (by decide) ?_)) (v := .int .i64 ((off + 1 : Nat) : Int)) (do_move rfl (hk.at (mh))) ?_
  clear hk; intro a hk
  refine list_k rfl rfl hk (by decide) (by repeat' (first | exact far_nil _ | refine far_cons (by decide) ?_)) (v := .int .i64 ((m : Nat) : Int)) (do_move rfl (hk.at (mt (mt mh)))) ?_
  clear hk; intro a hk
  refine list_k rfl rfl hk (by decide) (by repeat' (first | exact far_nil _ | refine far_cons (by decide) ?_)) (v := .int .i64 ((off + 1 + m : Nat) : Int)) ((do_addN rfl Try.underlying3 (hk.at (mt mh)) (hk.at (mh)) (by rw [IntKind.wrap_i64]; omega))) ?_
  clear hk; intro a hk
  refine list_k rfl rfl hk (by decide) (by repeat' (first | exact far_nil _ | refine far_cons (by decide) ?_)) (v := .int .i64 ((off + 1 + m : Nat) : Int)) (do_assign rfl (hk.at (mh))) ?_
  clear hk; intro a hk
  refine hK2 _ _ ?_
  clear hK2
  have hk2 : Keeps 272 ([(10, .int .i64 ((off + 1 + m : Nat) : Int)), (9, .int .i64 ((off + 1 : Nat) : Int)), (6, .int .i64 ((m : Nat) : Int)), (0, .pointer (some ⟨gi, 0, none⟩))]) a := by
    refine ⟨hk.1, hk.2.1, fun x hx => hk.2.2 x ?_⟩
    rcases List.mem_cons.1 hx with rfl | hx
    · exact mh
    rcases List.mem_cons.1 hx with rfl | hx
    · exact mt (mt (mt (mt mh)))
    rcases List.mem_cons.1 hx with rfl | hx
    · exact mt (mt (mt (mt (mt mh))))
    rcases List.mem_cons.1 hx with rfl | hx
    · exact mt (mt (mt (mt (mt (mt mh)))))
    cases hx
  clear hk
  have hk := hk2
  clear hk2
  refine wp_seq_k fun K2 hK2 => ?_
  refine wp_region_lit ?_
  refine list_k rfl rfl hk (by decide) (by repeat' (first | exact far_nil _ | refine far_cons (by decide) ?_)) (v := .int .i64 ((off + 1 + m : Nat) : Int)) (do_move rfl (hk.at (mh))) ?_
  clear hk; intro a hk
  refine list_k rfl rfl hk (by decide) (by repeat' (first | exact far_nil _ | refine far_cons (by decide) ?_)) (v := .int .i64 ((off + 1 + m + 16 : Nat) : Int)) ((do_addN (n := 16) rfl Try.underlying3 (hk.at (mh)) rfl (by rw [IntKind.wrap_i64]; omega))) ?_
  clear hk; intro a hk
  refine list_k rfl rfl hk (by decide) (by repeat' (first | exact far_nil _ | refine far_cons (by decide) ?_)) (v := .int .i64 ((off + 1 + m + 16 : Nat) : Int)) (do_assign rfl (hk.at (mh))) ?_
  clear hk; intro a hk
  refine hK2 _ _ ?_
  clear hK2
  have hk2 : Keeps 272 ([(11, .int .i64 ((off + 1 + m + 16 : Nat) : Int)), (10, .int .i64 ((off + 1 + m : Nat) : Int)), (9, .int .i64 ((off + 1 : Nat) : Int)), (6, .int .i64 ((m : Nat) : Int)), (0, .pointer (some ⟨gi, 0, none⟩))]) a := by
    refine ⟨hk.1, hk.2.1, fun x hx => hk.2.2 x ?_⟩
    rcases List.mem_cons.1 hx with rfl | hx
    · exact mh
    rcases List.mem_cons.1 hx with rfl | hx
    · exact mt (mt (mt mh))
    rcases List.mem_cons.1 hx with rfl | hx
    · exact mt (mt (mt (mt mh)))
    rcases List.mem_cons.1 hx with rfl | hx
    · exact mt (mt (mt (mt (mt mh))))
    rcases List.mem_cons.1 hx with rfl | hx
    · exact mt (mt (mt (mt (mt (mt mh)))))
    cases hx
  clear hk
  have hk := hk2
  clear hk2
  refine wp_seq_k fun K2 hK2 => ?_
  refine region_plan2 (fun w' => Below w1.heap.size w1 w') [(0, 0), (1, 0), (2, 0), (3, 0), (4, 0), (5, 0), (6, 0), (7, 0), (8, 0), (9, 0), (10, 0), (11, 1), (12, 0), (13, 0), (14, 0), (15, 2)] rfl (by kernel_rfl) (by kernel_rfl) rfl (by intro c a d v w h; cases d <;> exact h) (fun _ _ h => h) ?_
  intro OPS w1d hpW hbd
  clear hpW
  refine plan_k rfl hk (by decide) (by repeat' (first | exact far_nil _ | refine far_cons (by decide) ?_)) (v := .pointer (some ⟨gi, 0, none⟩)) (fun o ho w' hS => do_move ho (hk.at (mt (mt (mt (mt mh)))))) ?_
  clear hk; intro a hk
  refine plan_k rfl hk (by decide) (by repeat' (first | exact far_nil _ | refine far_cons (by decide) ?_)) (v := .pointer (some ⟨gi, 0, none⟩)) (fun o ho w' hS => do_nilc ho (hk.at (mh))) ?_
  clear hk; intro a hk
  refine plan_k rfl hk (by decide) (by repeat' (first | exact far_nil _ | refine far_cons (by decide) ?_)) (v := .pointer (some ⟨gi, 23, none⟩)) (fun o ho w' hS => do_fld79_4 ho (hk.at (mh))) ?_
  clear hk; intro a hk
  refine plan_k rfl hk (by decide) (by repeat' (first | exact far_nil _ | refine far_cons (by decide) ?_)) (v := .int .u32 ((t : Nat) : Int)) (fun o ho w' hS => do_ldB ho Try.underlying53 rfl (hk.at (mh)) (BI.kept hS) (itC_ts hk20)) ?_
  clear hk; intro a hk
  refine plan_k rfl hk (by decide) (by repeat' (first | exact far_nil _ | refine far_cons (by decide) ?_)) (v := .pointer (some ⟨gi, 0, none⟩)) (fun o ho w' hS => do_move ho (hk.at (mt (mt (mt (mt (mt (mt (mt (mt mh)))))))))) ?_
  clear hk; intro a hk
  refine plan_k rfl hk (by decide) (by repeat' (first | exact far_nil _ | refine far_cons (by decide) ?_)) (v := .pointer (some ⟨gi, 0, none⟩)) (fun o ho w' hS => do_nilc ho (hk.at (mh))) ?_
  clear hk; intro a hk
  refine plan_k rfl hk (by decide) (by repeat' (first | exact far_nil _ | refine far_cons (by decide) ?_)) (v := .pointer (some ⟨gi, 20, none⟩)) (fun o ho w' hS => do_fld79_1 ho (hk.at (mh))) ?_
  clear hk; intro a hk
  refine plan_k rfl hk (by decide) (by repeat' (first | exact far_nil _ | refine far_cons (by decide) ?_)) (v := .slice (some ⟨bc, oc, none⟩) n cc) (fun o ho w' hS => do_ldB ho Try.underlying22 rfl (hk.at (mh)) (BI.kept hS) (itC_sl hk20)) ?_
  clear hk; intro a hk
  refine plan_k rfl hk (by decide) (by repeat' (first | exact far_nil _ | refine far_cons (by decide) ?_)) (v := .int .i64 ((off + 1 : Nat) : Int)) (fun o ho w' hS => do_move ho (hk.at (mt (mt (mt (mt (mt (mt (mt (mt (mt (mt mh)))))))))))) ?_
  clear hk; intro a hk
  refine plan_k rfl hk (by decide) (by repeat' (first | exact far_nil _ | refine far_cons (by decide) ?_)) (v := .int .i64 ((off + 1 + m : Nat) : Int)) (fun o ho w' hS => do_move ho (hk.at (mt (mt (mt (mt (mt (mt (mt (mt (mt (mt mh)))))))))))) ?_
  clear hk; intro a hk
  refine plan_k rfl hk (by decide) (by repeat' (first | exact far_nil _ | refine far_cons (by decide) ?_)) (v := .slice (some ⟨bc, oc + (off + 1), none⟩) m (cc - (off + 1))) (fun o ho w' hS => do_sliceM ho Try.underlying22 (by kernel_rfl) (hk.at (mt (mt mh))) (hk.at (mt mh)) (hk.at (mh)) (by omega) (by omega)) ?_
  clear hk; intro a hk
  refine plan_kw2 rfl fun o ho hd hgd => ?_
  refine wp_call hgd (do_call1 ho (hk.at (mh)) (ent1_v32 _)) (varint32d (rd_sub (RC.kept hbd) hd1 (by rw [be_length]; omega)) hm1 hm4 hd256) ?_
  rintro e w2 ⟨rfl, hbc⟩
  have hS1 := hbd.trans (hbc.mono hbd.size)
  clear hbc hbd
  replace BI := BI.kept hS1
  replace RC := RC.kept hS1
  replace hG := grown_trans hG (grown_below hS1 _)
  refine ⟨_, rfl, ?_⟩
  rw [hd]
  refine keep_k (v := .int .u32 ((d : Nat) : Int)) hk (by decide) (by repeat' (first | exact far_nil _ | refine far_cons (by decide) ?_)) ?_
  clear hk; intro a hk
  refine ⟨hS1, ?_⟩
  refine plan_k rfl hk (by decide) (by repeat' (first | exact far_nil _ | refine far_cons (by decide) ?_)) (v := .int .u32 ((t + d : Nat) : Int)) (fun o ho w' hS => (do_addN ho Try.underlying53 (hk.at (mt (mt (mt (mt (mt (mt (mt (mt mh))))))))) (hk.at (mh)) (by rw [IntKind.wrap_u32]; omega))) ?_
  clear hk; intro a hk
  refine plan_k rfl hk (by decide) (by repeat' (first | exact far_nil _ | refine far_cons (by decide) ?_)) (v := .pointer (some ⟨gi, 0, none⟩)) (fun o ho w' hS => do_nilc ho (hk.at (mt (mt (mt (mt (mt (mt (mt (mt (mt (mt (mt (mt mh)))))))))))))) ?_
  clear hk; intro a hk
  refine plan_k rfl hk (by decide) (by repeat' (first | exact far_nil _ | refine far_cons (by decide) ?_)) (v := .pointer (some ⟨gi, 23, none⟩)) (fun o ho w' hS => do_fld79_4 ho (hk.at (mh))) ?_
  clear hk; intro a hk
  refine plan_kl2 rfl fun o ho hd hgd => ?_
  refine wp_store_cell hgd ho (by kernel_rfl) (hk.at (mh)) (hk.at (mt (mt mh))) rfl BI (by rw [itC_length hk20]; decide) fun w3 BIn gg ss => ?_
  clear ss
  rw [itC_set_ts hk20] at BIn
  replace RC := RC.grown gg (by rintro x ⟨⟩ e; have e2 : bc = gi := Option.some.inj e; omega)
  replace hG := grown_trans hG gg
  clear gg BI
  have BI := BIn
  clear BIn
  rw [hd]
  refine keep_0 hk ?_
  clear hk; intro a hk
  show wpPlan _ OPS _ (fun w' => Below w1.heap.size w1 w') (planOps2 _ _) _ _
  refine plan_k0 ?_
  refine hK2 _ _ ?_
  clear hK2
  have hk2 : Keeps 272 ([(11, .int .i64 ((off + 1 + m + 16 : Nat) : Int)), (10, .int .i64 ((off + 1 + m : Nat) : Int)), (6, .int .i64 ((m : Nat) : Int)), (0, .pointer (some ⟨gi, 0, none⟩))]) a := by
    refine ⟨hk.1, hk.2.1, fun x hx => hk.2.2 x ?_⟩
    rcases List.mem_cons.1 hx with rfl | hx
    · exact mt (mt (mt (mt (mt (mt (mt (mt (mt (mt (mt (mt (mt (mt (mt mh))))))))))))))
    rcases List.mem_cons.1 hx with rfl | hx
    · exact mt (mt (mt (mt (mt (mt (mt (mt (mt (mt (mt (mt (mt (mt (mt (mt mh)))))))))))))))
    rcases List.mem_cons.1 hx with rfl | hx
    · exact mt (mt (mt (mt (mt (mt (mt (mt (mt (mt (mt (mt (mt (mt (mt (mt (mt (mt mh)))))))))))))))))
    rcases List.mem_cons.1 hx with rfl | hx
    · exact mt (mt (mt (mt (mt (mt (mt (mt (mt (mt (mt (mt (mt (mt (mt (mt (mt (mt (mt mh))))))))))))))))))
    cases hx
  clear hk
  have hk := hk2
  clear hk2
  refine wp_seq_k fun K2 hK2 => ?_
  refine region_plan2 (fun w' => Below w3.heap.size w3 w') [(0, 0), (1, 0), (2, 0), (3, 0), (4, 0), (5, 0), (6, 0), (7, 0), (8, 2)] rfl (by kernel_rfl) (by kernel_rfl) rfl (by intro c a d v w h; cases d <;> exact h) (fun _ _ h => h) ?_
  intro OPS w3d hpW hbd
  clear hpW
  refine plan_k rfl hk (by decide) (by repeat' (first | exact far_nil _ | refine far_cons (by decide) ?_)) (v := .pointer (some ⟨gi, 0, none⟩)) (fun o ho w' hS => do_move ho (hk.at (mt (mt (mt mh))))) ?_
  clear hk; intro a hk
  refine plan_k rfl hk (by decide) (by repeat' (first | exact far_nil _ | refine far_cons (by decide) ?_)) (v := .pointer (some ⟨gi, 0, none⟩)) (fun o ho w' hS => do_nilc ho (hk.at (mh))) ?_
  clear hk; intro a hk
  refine plan_k rfl hk (by decide) (by repeat' (first | exact far_nil _ | refine far_cons (by decide) ?_)) (v := .pointer (some ⟨gi, 0, none⟩)) (fun o ho w' hS => do_fld79_0 ho (hk.at (mh))) ?_
  clear hk; intro a hk
  refine plan_k rfl hk (by decide) (by repeat' (first | exact far_nil _ | refine far_cons (by decide) ?_)) (v := .slice (some ⟨gi, 0, none⟩) 4 20) (fun o ho w' hS => do_arrTo (h := 4) ho Try.underlying59 (by kernel_rfl) (hk.at (mh)) rfl (by decide)) ?_
  clear hk; intro a hk
  refine plan_k rfl hk (by decide) (by repeat' (first | exact far_nil _ | refine far_cons (by decide) ?_)) (v := .pointer (some ⟨gi, 0, none⟩)) (fun o ho w' hS => do_move ho (hk.at (mt (mt (mt (mt (mt (mt (mt mh))))))))) ?_
  clear hk; intro a hk
  refine plan_k rfl hk (by decide) (by repeat' (first | exact far_nil _ | refine far_cons (by decide) ?_)) (v := .pointer (some ⟨gi, 0, none⟩)) (fun o ho w' hS => do_nilc ho (hk.at (mh))) ?_
  clear hk; intro a hk
  refine plan_k rfl hk (by decide) (by repeat' (first | exact far_nil _ | refine far_cons (by decide) ?_)) (v := .pointer (some ⟨gi, 23, none⟩)) (fun o ho w' hS => do_fld79_4 ho (hk.at (mh))) ?_
  clear hk; intro a hk
  refine plan_k rfl hk (by decide) (by repeat' (first | exact far_nil _ | refine far_cons (by decide) ?_)) (v := .int .u32 ((t + d : Nat) : Int)) (fun o ho w' hS => do_ldB ho Try.underlying53 rfl (hk.at (mh)) (BI.kept hS) (itC_ts hk20)) ?_
  clear hk; intro a hk
  refine plan_kl2 rfl fun o ho hd hgd => ?_
  replace BI := BI.kept hbd
  replace RC := RC.kept hbd
  replace hG := grown_trans hG (grown_below hbd _)
  clear hbd
  refine wp_call hgd (do_call2 ho (hk.at (mt (mt (mt (mt mh))))) (hk.at (mh)) (ent2_pu _ _)) (ks_put32 gi 0 4 20 (t + d) _ _ _ BI (by decide) (by decide) (by rw [itC_length hk20]; decide)) ?_
  rintro e w4 ⟨rfl, BIn, gg, ss⟩
  clear ss
  rw [itC_put_4 hk20] at BIn
  replace RC := RC.grown gg (by rintro x ⟨⟩ e; have e2 : bc = gi := Option.some.inj e; omega)
  replace hG := grown_trans hG gg
  clear gg BI
  have BI := BIn
  clear BIn
  refine ⟨_, rfl, ?_⟩
  rw [hd]
  refine keep_k (v := .tuple #[]) hk (by decide) (by repeat' (first | exact far_nil _ | refine far_cons (by decide) ?_)) ?_
  clear hk; intro a hk
  show wpPlan _ OPS _ (fun w' => Below w3.heap.size w3 w') (planOps2 _ _) _ _
  refine plan_k0 ?_
  have hq16 : (k.drop 4).length = 16 := by rw [List.length_drop, hk20]
  replace hk20 := it_length (t + d) hq16
  refine hK2 _ _ ?_
  clear hK2
  have hk2 : Keeps 272 ([(11, .int .i64 ((off + 1 + m + 16 : Nat) : Int)), (10, .int .i64 ((off + 1 + m : Nat) : Int)), (6, .int .i64 ((m : Nat) : Int)), (0, .pointer (some ⟨gi, 0, none⟩))]) a := by
    refine ⟨hk.1, hk.2.1, fun x hx => hk.2.2 x ?_⟩
    rcases List.mem_cons.1 hx with rfl | hx
    · exact mt (mt (mt (mt (mt (mt (mt (mt (mt mh))))))))
    rcases List.mem_cons.1 hx with rfl | hx
    · exact mt (mt (mt (mt (mt (mt (mt (mt (mt (mt mh)))))))))
    rcases List.mem_cons.1 hx with rfl | hx
    · exact mt (mt (mt (mt (mt (mt (mt (mt (mt (mt (mt mh))))))))))
    rcases List.mem_cons.1 hx with rfl | hx
    · exact mt (mt (mt (mt (mt (mt (mt (mt (mt (mt (mt (mt mh)))))))))))
    cases hx
  clear hk
  have hk := hk2
  clear hk2
  refine wp_seq_k fun K2 hK2 => ?_
  refine region_plan2 (fun w' => Below w4.heap.size w4 w') [(0, 0), (1, 0), (2, 0), (3, 0), (4, 0), (5, 0), (6, 0), (7, 0), (8, 0), (9, 0), (10, 0), (11, 2)] rfl (by kernel_rfl) (by kernel_rfl) rfl (by intro c a d v w h; cases d <;> exact h) (fun _ _ h => h) ?_
  intro OPS w4d hpW hbd
  clear hpW
  refine plan_k rfl hk (by decide) (by repeat' (first | exact far_nil _ | refine far_cons (by decide) ?_)) (v := .pointer (some ⟨gi, 0, none⟩)) (fun o ho w' hS => do_move ho (hk.at (mt (mt (mt mh))))) ?_
  clear hk; intro a hk
  refine plan_k rfl hk (by decide) (by repeat' (first | exact far_nil _ | refine far_cons (by decide) ?_)) (v := .pointer (some ⟨gi, 0, none⟩)) (fun o ho w' hS => do_nilc ho (hk.at (mh))) ?_
  clear hk; intro a hk
  refine plan_k rfl hk (by decide) (by repeat' (first | exact far_nil _ | refine far_cons (by decide) ?_)) (v := .pointer (some ⟨gi, 0, none⟩)) (fun o ho w' hS => do_fld79_0 ho (hk.at (mh))) ?_
  clear hk; intro a hk
  refine plan_k rfl hk (by decide) (by repeat' (first | exact far_nil _ | refine far_cons (by decide) ?_)) (v := .slice (some ⟨gi, 0 + 4, none⟩) 16 16) (fun o ho w' hS => do_arrFrom (h := 4) ho Try.underlying59 (by kernel_rfl) (hk.at (mh)) rfl (by decide)) ?_
  clear hk; intro a hk
  refine plan_k rfl hk (by decide) (by repeat' (first | exact far_nil _ | refine far_cons (by decide) ?_)) (v := .pointer (some ⟨gi, 0, none⟩)) (fun o ho w' hS => do_move ho (hk.at (mt (mt (mt (mt (mt (mt (mt mh))))))))) ?_
  clear hk; intro a hk
  refine plan_k rfl hk (by decide) (by repeat' (first | exact far_nil _ | refine far_cons (by decide) ?_)) (v := .pointer (some ⟨gi, 0, none⟩)) (fun o ho w' hS => do_nilc ho (hk.at (mh))) ?_
  clear hk; intro a hk
  refine plan_k rfl hk (by decide) (by repeat' (first | exact far_nil _ | refine far_cons (by decide) ?_)) (v := .pointer (some ⟨gi, 20, none⟩)) (fun o ho w' hS => do_fld79_1 ho (hk.at (mh))) ?_
  clear hk; intro a hk
  refine plan_k rfl hk (by decide) (by repeat' (first | exact far_nil _ | refine far_cons (by decide) ?_)) (v := .slice (some ⟨bc, oc, none⟩) n cc) (fun o ho w' hS => do_ldB ho Try.underlying22 rfl (hk.at (mh)) (BI.kept hS) (itC_sl hk20)) ?_
  clear hk; intro a hk
  refine plan_k rfl hk (by decide) (by repeat' (first | exact far_nil _ | refine far_cons (by decide) ?_)) (v := .int .i64 ((off + 1 + m : Nat) : Int)) (fun o ho w' hS => do_move ho (hk.at (mt (mt (mt (mt (mt (mt (mt (mt (mt mh))))))))))) ?_
  clear hk; intro a hk
  refine plan_k rfl hk (by decide) (by repeat' (first | exact far_nil _ | refine far_cons (by decide) ?_)) (v := .int .i64 ((off + 1 + m + 16 : Nat) : Int)) (fun o ho w' hS => do_move ho (hk.at (mt (mt (mt (mt (mt (mt (mt (mt (mt mh))))))))))) ?_
  clear hk; intro a hk
  refine plan_k rfl hk (by decide) (by repeat' (first | exact far_nil _ | refine far_cons (by decide) ?_)) (v := .slice (some ⟨bc, oc + (off + 1 + m), none⟩) 16 (cc - (off + 1 + m))) (fun o ho w' hS => do_sliceM (m := 16) ho Try.underlying22 (by kernel_rfl) (hk.at (mt (mt mh))) (hk.at (mt mh)) (hk.at (mh)) (by decide) (by omega)) ?_
  clear hk; intro a hk
  refine plan_kl2 rfl fun o ho hd hgd => ?_
  replace BI := BI.kept hbd
  replace RC := RC.kept hbd
  replace hG := grown_trans hG (grown_below hbd _)
  clear hbd
  refine wp_copy_mid (Below.refl 0 _) hgd ho Try.underlying22 (by kernel_rfl) (hk.at (mt (mt (mt (mt (mt (mt (mt mh)))))))) (hk.at (mh)) BI p (rd_sub RC hd2 (by rw [hp]; decide)) (Nat.zero_le _) (by rw [itC_length hk20]; decide) hp (by decide) fun w5 BIn gg h0 => ?_
  clear h0
  rw [itC_put_16 _ hq16 hp] at BIn
  replace RC := RC.grown gg (by rintro x ⟨⟩ e; have e2 : bc = gi := Option.some.inj e; omega)
  replace hG := grown_trans hG gg
  clear gg BI
  have BI := BIn
  clear BIn
  rw [hd]
  refine keep_k (v := .int .i64 ((16 : Nat) : Int)) hk (by decide) (by repeat' (first | exact far_nil _ | refine far_cons (by decide) ?_)) ?_
  clear hk; intro a hk
  show wpPlan _ OPS _ (fun w' => Below w4.heap.size w4 w') (planOps2 _ _) _ _
  refine plan_k0 ?_
  replace hk20 := it_length (t + d) hp
  refine hK2 _ _ ?_
  clear hK2
  have hk2 : Keeps 272 ([(11, .int .i64 ((off + 1 + m + 16 : Nat) : Int)), (6, .int .i64 ((m : Nat) : Int)), (0, .pointer (some ⟨gi, 0, none⟩))]) a := by
    refine ⟨hk.1, hk.2.1, fun x hx => hk.2.2 x ?_⟩
    rcases List.mem_cons.1 hx with rfl | hx
    · exact mt (mt (mt (mt (mt (mt (mt (mt (mt (mt (mt (mt mh)))))))))))
    rcases List.mem_cons.1 hx with rfl | hx
    · exact mt (mt (mt (mt (mt (mt (mt (mt (mt (mt (mt (mt (mt (mt mh)))))))))))))
    rcases List.mem_cons.1 hx with rfl | hx
    · exact mt (mt (mt (mt (mt (mt (mt (mt (mt (mt (mt (mt (mt (mt (mt mh))))))))))))))
    cases hx
  clear hk
  have hk := hk2
  clear hk2
  refine wp_seq_k fun K2 hK2 => ?_
  refine wp_region_lit ?_
  refine list_k rfl rfl hk (by decide) (by repeat' (first | exact far_nil _ | refine far_cons (by decide) ?_)) (v := .pointer (some ⟨gi, 0, none⟩)) (do_move rfl (hk.at (mt (mt mh)))) ?_
  clear hk; intro a hk
  refine list_k rfl rfl hk (by decide) (by repeat' (first | exact far_nil _ | refine far_cons (by decide) ?_)) (v := .int .i64 ((off + 1 + m + 16 : Nat) : Int)) (do_move rfl (hk.at (mt mh))) ?_
  clear hk; intro a hk
  refine list_k rfl rfl hk (by decide) (by repeat' (first | exact far_nil _ | refine far_cons (by decide) ?_)) (v := .pointer (some ⟨gi, 0, none⟩)) (do_nilc rfl (hk.at (mt mh))) ?_
  clear hk; intro a hk
  refine list_k rfl rfl hk (by decide) (by repeat' (first | exact far_nil _ | refine far_cons (by decide) ?_)) (v := .pointer (some ⟨gi, 21, none⟩)) (do_fld79_2 rfl (hk.at (mh))) ?_
  clear hk; intro a hk
  refine wp_store_cell rfl rfl (by kernel_rfl) (hk.at (mh)) (hk.at (mt (mt mh))) rfl BI (by rw [itC_length hk20]; decide) fun w6 BIn gg ss => ?_
  clear ss
  rw [itC_set_off hk20] at BIn
  replace RC := RC.grown gg (by rintro x ⟨⟩ e; have e2 : bc = gi := Option.some.inj e; omega)
  replace hG := grown_trans hG gg
  clear gg BI
  have BI := BIn
  clear BIn
  refine keep_0 hk ?_
  clear hk; intro a hk
  refine hK2 _ _ ?_
  clear hK2
  have hk2 : Keeps 272 ([(6, .int .i64 ((m : Nat) : Int)), (0, .pointer (some ⟨gi, 0, none⟩))]) a := by
    refine ⟨hk.1, hk.2.1, fun x hx => hk.2.2 x ?_⟩
    rcases List.mem_cons.1 hx with rfl | hx
    · exact mt (mt (mt (mt (mt mh))))
    rcases List.mem_cons.1 hx with rfl | hx
    · exact mt (mt (mt (mt (mt (mt mh)))))
    cases hx
  clear hk
  have hk := hk2
  clear hk2
  refine wp_region_lit ?_
  refine list_k rfl rfl hk (by decide) (by repeat' (first | exact far_nil _ | refine far_cons (by decide) ?_)) (v := .pointer (some ⟨gi, 0, none⟩)) (do_move rfl (hk.at (mt mh))) ?_
  clear hk; intro a hk
  refine list_k rfl rfl hk (by decide) (by repeat' (first | exact far_nil _ | refine far_cons (by decide) ?_)) (v := .pointer (some ⟨gi, 0, none⟩)) (do_move rfl (hk.at (mt (mt mh)))) ?_
  clear hk; intro a hk
  refine list_k rfl rfl hk (by decide) (by repeat' (first | exact far_nil _ | refine far_cons (by decide) ?_)) (v := .pointer (some ⟨gi, 0, none⟩)) (do_nilc rfl (hk.at (mh))) ?_
  clear hk; intro a hk
  refine list_k rfl rfl hk (by decide) (by repeat' (first | exact far_nil _ | refine far_cons (by decide) ?_)) (v := .pointer (some ⟨gi, 0, none⟩)) (do_fld79_0 rfl (hk.at (mh))) ?_
  clear hk; intro a hk
  refine list_k rfl rfl hk (by decide) (by repeat' (first | exact far_nil _ | refine far_cons (by decide) ?_)) (v := .agg (bvs (be 4 (t + d) ++ p)).toArray) (do_ldP ksArr rfl (hk.at (mh)) BI (itC_k hk20) (by rw [bvs_length, hk20])) ?_
  clear hk; intro a hk
  refine wp_call rfl (do_call1 rfl (hk.at (mh)) (ent1_pl _)) (payload_tp (t + d) p _ hp) ?_
  rintro e w7 ⟨rfl, hbc⟩
  replace BI := BI.kept hbc
  replace RC := RC.kept hbc
  replace hG := grown_trans hG (grown_below hbc _)
  clear hbc
  refine ⟨_, rfl, ?_⟩
  refine keep_k (v := .agg (uN (num p)).toArray) hk (by decide) (by repeat' (first | exact far_nil _ | refine far_cons (by decide) ?_)) ?_
  clear hk; intro a hk
  refine list_k rfl rfl hk (by decide) (by repeat' (first | exact far_nil _ | refine far_cons (by decide) ?_)) (v := .pointer (some ⟨gi, 0, none⟩)) (do_nilc rfl (hk.at (mt (mt (mt (mt (mt mh))))))) ?_
  clear hk; intro a hk
  refine list_k rfl rfl hk (by decide) (by repeat' (first | exact far_nil _ | refine far_cons (by decide) ?_)) (v := .pointer (some ⟨gi, 24, none⟩)) (do_fld79_5 rfl (hk.at (mh))) ?_
  clear hk; intro a hk
  refine wp_store_part u128Arr rfl rfl (hk.at (mh)) (hk.at (mt (mt mh))) rfl (uN_one _) BI (by rw [itC_length hk20]; decide) fun w8 BIn gg ss => ?_
  clear ss
  rw [itC_put_v hk20] at BIn
  replace RC := RC.grown gg (by rintro x ⟨⟩ e; have e2 : bc = gi := Option.some.inj e; omega)
  replace hG := grown_trans hG gg
  clear gg BI
  have BI := BIn
  clear BIn
  refine keep_0 hk ?_
  clear hk; intro a hk
  refine hK1 _ _ ?_
  clear hK1
  have hk2 : Keeps 272 ([(0, .pointer (some ⟨gi, 0, none⟩))]) a := by
    refine ⟨hk.1, hk.2.1, fun x hx => hk.2.2 x ?_⟩
    rcases List.mem_cons.1 hx with rfl | hx
    · exact mt (mt (mt (mt (mt (mt (mt (mt (mt mh))))))))
    cases hx
  clear hk
  have hk := hk2
  clear hk2
  refine wp_seq_k fun K2 hK2 => ?_
  refine wp_region_lit ?_
  refine list_k rfl rfl hk (by decide) (by repeat' (first | exact far_nil _ | refine far_cons (by decide) ?_)) (v := .bool true) (do_assign rfl rfl) ?_
  clear hk; intro a hk
  refine hK2 _ _ (wp_ret ?_)
  try simp only [Exit.inBlock, Exit.then]
  refine ret_tmp1 rfl hk.2.1 (hk.at mh) ?_
  exact ⟨rfl, BI, hG⟩
end Go.Proofs.Ytbacbgicfomkbaa
