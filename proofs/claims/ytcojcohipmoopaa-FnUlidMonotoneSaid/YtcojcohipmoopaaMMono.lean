/- Contract of ULID's Monotonic. -/
import Derived.Test.YtcojcohipmoopaaMNew
namespace Go.Proofs.Ytcojcohipmoopaa
open Go.RowKit
set_option linter.unusedVariables false
set_option linter.unusedSimpArgs false
def meZ : List Value := [.nilIface, .int .u64 0, .int .u64 0, .int .u16 0, .int .u64 0, .int .u8 0, .int .u8 0, .int .u8 0, .int .u8 0, .int .u8 0, .int .u8 0, .int .u8 0, .int .u8 0, .nilIface]
theorem meArr : Arr Try.prog 56 14 meZ where
  und := ⟨_, Try.underlying56, rfl⟩
  size := by kernel_rfl
  zero := fun w => by kernel_rfl
  len := rfl
theorem me_build (gs i : Nat) (w : World) : (Instr.build 56 #[(0, .iface 35 (.pointer (some ⟨gs, 0, none⟩))), (2, .int .u64 ((i : Nat) : Int))]).run Try.prog w = .ok (.agg (mE gs 0 i 0 (List.replicate 8 0)).toArray) w := by kernel_rfl
theorem do_build2 {P : Program} {a : Act} {w : World} {o : Oper} {t : TypeId} {i j : Nat} {x y : Operand} {u v r : Value} (ho : o.op = .build t #[(i, x), (j, y)]) (hx : a.eval x = u) (hy : a.eval y = v) (h : (Instr.build t #[(i, u), (j, v)]).run P w = .ok r w) : (execOp a.eval o).run P w = .ok (.value r) w := by
  subst hx hy
  unfold execOp
  simp [ho, Sem.run_bind, h, Result.andThen]
theorem no_rng (v : Value) (w : World) : (Instr.typeAssert (.iface 35 v) 48 54 true).run Try.prog w = .ok (.tuple #[.nilIface, .bool false]) w :=
  run_typeAssert_lacksB Try.underlying54 (by kernel_rfl) (by kernel_rfl) v 48 w
theorem me_cells (gs inc : Nat) : (∀ u ∈ mE gs 0 inc 0 (List.replicate 8 0), u.oneCell' = true) ∧ (mE gs 0 inc 0 (List.replicate 8 0)).length = 14 ∧ (mE gs 0 inc 0 (List.replicate 8 0))[2]? = some (.int .u64 ((inc : Nat) : Int)) := by
  refine ⟨?_, mC_length rfl, rfl⟩
  intro u hu
  simp [mE, mC, bvs, bv] at hu
  rcases hu with rfl | rfl | rfl | rfl | rfl | rfl | rfl <;> rfl
theorem do_tassert {P : Program} {a : Act} {w : World} {o : Oper} {xT t : TypeId} {x : Operand} {u r : Value} (ho : o.op = .typeAssert x xT t true) (hx : a.eval x = u) (h : (Instr.typeAssert u xT t true).run P w = .ok r w) : (execOp a.eval o).run P w = .ok (.value r) w := by
  subst hx
  unfold execOp
  simp [ho, Sem.run_bind, h, Result.andThen]

set_option maxRecDepth 100000 in
theorem monotonic_ok (gs inc : Nat) (w : World) (hi : 1 ≤ inc) :
    Calls Try.prog 8 #[.iface 35 (.pointer (some ⟨gs, 0, none⟩)), .int .u64 ((inc : Nat) : Int)] w fun e w' => ∃ gm, e = .returned (.pointer (some ⟨gm, 0, none⟩)) ∧ w.heap.size ≤ gm ∧ Blk w' gm (mE gs 0 inc 0 (List.replicate 8 0)) 56 ∧ Below w.heap.size w w' := by
  have hb := Below.refl w.heap.size w
  have HC := Lib.hid (me_cells gs inc)
  go_enter Try.func8, Try.ntmps8
  refine of_keeps 23 [(1, .int .u64 ((inc : Nat) : Int)), (0, .iface 35 (.pointer (some ⟨gs, 0, none⟩)))] ⟨by kernel_rfl, rfl, fun x hx => by simp at hx; rcases hx with rfl | rfl <;> rfl⟩ fun a hk => ?_
  refine wp_seq_k fun K0 hK0 => ?_
  refine wp_region_lit ?_
  refine list_k rfl rfl hk (by decide) (by repeat' (first | exact far_nil _ | refine far_cons (by decide) ?_)) (v := .pointer none) (do_assign rfl rfl) ?_
  clear hk; intro a hk
  refine hK0 _ _ ?_
  clear hK0
  have hk2 : Keeps 23 ([(1, .int .u64 ((inc : Nat) : Int)), (0, .iface 35 (.pointer (some ⟨gs, 0, none⟩)))]) a := by
    refine ⟨hk.1, hk.2.1, fun x hx => hk.2.2 x ?_⟩
    rcases List.mem_cons.1 hx with rfl | hx
    · exact List.mem_cons_of_mem _ (List.mem_cons_self ..)
    rcases List.mem_cons.1 hx with rfl | hx
    · exact List.mem_cons_of_mem _ (List.mem_cons_of_mem _ (List.mem_cons_self ..))
    cases hx
  clear hk
  have hk := hk2
  clear hk2
  refine wp_seq_k fun K1 hK1 => ?_
  refine wp_region_lit ?_
  refine list_k rfl rfl hk (by decide) (by repeat' (first | exact far_nil _ | refine far_cons (by decide) ?_)) (v := .iface 35 (.pointer (some ⟨gs, 0, none⟩))) (do_move rfl (hk.at (List.mem_cons_of_mem _ (List.mem_cons_self ..)))) ?_
  clear hk; intro a hk
  refine list_k rfl rfl hk (by decide) (by repeat' (first | exact far_nil _ | refine far_cons (by decide) ?_)) (v := .int .u64 ((inc : Nat) : Int)) (do_move rfl (hk.at (List.mem_cons_of_mem _ (List.mem_cons_self ..)))) ?_
  clear hk; intro a hk
  refine list_k rfl rfl hk (by decide) (by repeat' (first | exact far_nil _ | refine far_cons (by decide) ?_)) (v := .agg (mE gs 0 inc 0 (List.replicate 8 0)).toArray) (do_build2 rfl (hk.at (List.mem_cons_of_mem _ (List.mem_cons_self ..))) (hk.at (List.mem_cons_self ..)) (me_build gs inc _)) ?_
  clear hk; intro a hk
  refine wp_alloc_blk meArr hb rfl rfl rfl (Nat.le_refl _) ?_
  intro w1 b1 g1 s1 hb1
  refine keep_k (v := .pointer (some ⟨w.heap.size, 0, none⟩)) hk (by decide) (by repeat' (first | exact far_nil _ | refine far_cons (by decide) ?_)) ?_
  clear hk; intro a hk
  refine wp_store_blk meArr hb1 rfl rfl (hk.at (List.mem_cons_self ..)) (cs := (mE gs 0 inc 0 (List.replicate 8 0))) (hk.at (List.mem_cons_of_mem _ (List.mem_cons_self ..))) b1 (Nat.le_refl _) rfl HC.out.2.1 HC.out.1 ?_
  intro w2 b2 g2 s2 hb2
  refine keep_0 hk ?_
  clear hk; intro a hk
  refine hK1 _ _ ?_
  clear hK1
  have hk2 : Keeps 23 ([(5, .pointer (some ⟨w.heap.size, 0, none⟩)), (0, .iface 35 (.pointer (some ⟨gs, 0, none⟩)))]) a := by
    refine ⟨hk.1, hk.2.1, fun x hx => hk.2.2 x ?_⟩
    rcases List.mem_cons.1 hx with rfl | hx
    · exact List.mem_cons_self ..
    rcases List.mem_cons.1 hx with rfl | hx
    · exact List.mem_cons_of_mem _ (List.mem_cons_of_mem _ (List.mem_cons_of_mem _ (List.mem_cons_of_mem _ (List.mem_cons_of_mem _ (List.mem_cons_self ..)))))
    cases hx
  clear hk
  have hk := hk2
  clear hk2
  refine wp_seq_k fun K1 hK1 => ?_
  refine wp_seq_k fun K2 hK2 => ?_
  refine wp_region_lit ?_
  refine list_k rfl rfl hk (by decide) (by repeat' (first | exact far_nil _ | refine far_cons (by decide) ?_)) (v := .pointer (some ⟨w.heap.size, 2, none⟩)) (do_fld56_2 rfl (hk.at (List.mem_cons_self ..))) ?_
  clear hk; intro a hk
  refine list_k rfl rfl hk (by decide) (by repeat' (first | exact far_nil _ | refine far_cons (by decide) ?_)) (v := .int .u64 ((inc : Nat) : Int)) (do_ldB rfl Try.underlying24 rfl (hk.at (List.mem_cons_self ..)) b2 HC.out.2.2) ?_
  clear hk; intro a hk
  refine list_k rfl rfl hk (by decide) (by repeat' (first | exact far_nil _ | refine far_cons (by decide) ?_)) (v := .bool false) ((do_eqlF (n := 0) rfl Try.underlying24 (hk.at (List.mem_cons_self ..)) rfl (by omega))) ?_
  clear hk; intro a hk
  refine hK2 _ _ (wp_cond_false (hk.at (List.mem_cons_self ..)) (wp_skip (hK1 _ _ ?_)))
  clear hK2 hK1
  have hk2 : Keeps 23 ([(5, .pointer (some ⟨w.heap.size, 0, none⟩)), (0, .iface 35 (.pointer (some ⟨gs, 0, none⟩)))]) a := by
    refine ⟨hk.1, hk.2.1, fun x hx => hk.2.2 x ?_⟩
    rcases List.mem_cons.1 hx with rfl | hx
    · exact List.mem_cons_of_mem _ (List.mem_cons_of_mem _ (List.mem_cons_of_mem _ (List.mem_cons_self ..)))
    rcases List.mem_cons.1 hx with rfl | hx
    · exact List.mem_cons_of_mem _ (List.mem_cons_of_mem _ (List.mem_cons_of_mem _ (List.mem_cons_of_mem _ (List.mem_cons_self ..))))
    cases hx
  clear hk
  have hk := hk2
  clear hk2
  refine wp_seq_k fun K1 hK1 => ?_
  refine wp_seq_k fun K2 hK2 => ?_
  refine wp_region_lit ?_
  refine list_k rfl rfl hk (by decide) (by repeat' (first | exact far_nil _ | refine far_cons (by decide) ?_)) (v := .iface 35 (.pointer (some ⟨gs, 0, none⟩))) (do_move rfl (hk.at (List.mem_cons_of_mem _ (List.mem_cons_self ..)))) ?_
  clear hk; intro a hk
  refine list_k rfl rfl hk (by decide) (by repeat' (first | exact far_nil _ | refine far_cons (by decide) ?_)) (v := .tuple #[.nilIface, .bool false]) (do_tassert rfl (hk.at (List.mem_cons_self ..)) (no_rng _ _)) ?_
  clear hk; intro a hk
  refine list_k rfl rfl hk (by decide) (by repeat' (first | exact far_nil _ | refine far_cons (by decide) ?_)) (v := .tuple #[.nilIface, .bool false]) (do_move rfl (hk.at (List.mem_cons_self ..))) ?_
  clear hk; intro a hk
  refine list_k rfl rfl hk (by decide) (by repeat' (first | exact far_nil _ | refine far_cons (by decide) ?_)) (v := .nilIface) (do_extract rfl (hk.at (List.mem_cons_self ..)) rfl) ?_
  clear hk; intro a hk
  refine list_k rfl rfl hk (by decide) (by repeat' (first | exact far_nil _ | refine far_cons (by decide) ?_)) (v := .bool false) (do_extract rfl (hk.at (List.mem_cons_of_mem _ (List.mem_cons_self ..))) rfl) ?_
  clear hk; intro a hk
  refine list_k rfl rfl hk (by decide) (by repeat' (first | exact far_nil _ | refine far_cons (by decide) ?_)) (v := .nilIface) (do_assign rfl (hk.at (List.mem_cons_of_mem _ (List.mem_cons_self ..)))) ?_
  clear hk; intro a hk
  refine list_k rfl rfl hk (by decide) (by repeat' (first | exact far_nil _ | refine far_cons (by decide) ?_)) (v := .bool false) (do_assign rfl (hk.at (List.mem_cons_of_mem _ (List.mem_cons_self ..)))) ?_
  clear hk; intro a hk
  refine hK2 _ _ ?_
  clear hK2
  have hk2 : Keeps 23 ([(7, .bool false), (5, .pointer (some ⟨w.heap.size, 0, none⟩))]) a := by
    refine ⟨hk.1, hk.2.1, fun x hx => hk.2.2 x ?_⟩
    rcases List.mem_cons.1 hx with rfl | hx
    · exact List.mem_cons_self ..
    rcases List.mem_cons.1 hx with rfl | hx
    · exact List.mem_cons_of_mem _ (List.mem_cons_of_mem _ (List.mem_cons_of_mem _ (List.mem_cons_of_mem _ (List.mem_cons_of_mem _ (List.mem_cons_of_mem _ (List.mem_cons_of_mem _ (List.mem_cons_self ..)))))))
    cases hx
  clear hk
  have hk := hk2
  clear hk2
  refine wp_seq_k fun K2 hK2 => ?_
  refine wp_region_lit ?_
  refine list_k rfl rfl hk (by decide) (by repeat' (first | exact far_nil _ | refine far_cons (by decide) ?_)) (v := .bool false) (do_move rfl (hk.at (List.mem_cons_self ..))) ?_
  clear hk; intro a hk
  refine hK2 _ _ (wp_cond_false (hk.at (List.mem_cons_self ..)) (wp_skip (hK1 _ _ ?_)))
  clear hK2 hK1
  have hk2 : Keeps 23 ([(5, .pointer (some ⟨w.heap.size, 0, none⟩))]) a := by
    refine ⟨hk.1, hk.2.1, fun x hx => hk.2.2 x ?_⟩
    rcases List.mem_cons.1 hx with rfl | hx
    · exact List.mem_cons_of_mem _ (List.mem_cons_of_mem _ (List.mem_cons_self ..))
    cases hx
  clear hk
  have hk := hk2
  clear hk2
  refine wp_seq_k fun K1 hK1 => ?_
  refine wp_region_lit ?_
  refine list_k rfl rfl hk (by decide) (by repeat' (first | exact far_nil _ | refine far_cons (by decide) ?_)) (v := .pointer (some ⟨w.heap.size, 0, none⟩)) (do_assign rfl (hk.at (List.mem_cons_self ..))) ?_
  clear hk; intro a hk
  refine hK1 _ _ (wp_ret ?_)
  refine ret_tmp1 (t := 4) rfl hk.2.1 (hk.at (List.mem_cons_self ..)) ?_
  exact ⟨_, rfl, Nat.le_refl _, b2, hb2⟩
end Go.Proofs.Ytcojcohipmoopaa
