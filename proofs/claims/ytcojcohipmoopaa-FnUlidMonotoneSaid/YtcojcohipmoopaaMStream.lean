/- Contract of the reader that does not end: bytes from a seed on. -/
import Derived.Test.YtcojcohipmoopaaMNum
import Derived.Test.YtcojcohipmoopaaSets
import Derived.Test.YtcojcohipmoopaaFeed
import Derived.Test.YtcojcohipmoopaaLcg
namespace Go.Proofs.Ytcojcohipmoopaa
open Go.RowKit
set_option linter.unusedVariables false
set_option linter.unusedSimpArgs false
/-- The first bytes behind a state. -/
def sb (n x : Nat) : List UInt8 := (List.range n).map fun i => UInt8.ofNat (itL (i + 1) x / 16777216)
theorem sb_length (n x : Nat) : (sb n x).length = n := by simp [sb]
theorem sb_succ (n x : Nat) : sb (n + 1) x = sb n x ++ [UInt8.ofNat (itL (n + 1) x / 16777216)] := by simp [sb, List.range_succ]
theorem itL_next (k x : Nat) : itL (k + 1) x = lcg (itL k x) := by rw [itL_add 1 k x, show (1 : Nat) = 0 + 1 from rfl, itL_succ, itL_zero]
theorem bvs_single (n : Nat) (h : n < 256) : bvs [UInt8.ofNat n] = [.int .u8 ((n : Nat) : Int)] := by
  unfold bvs bv
  rw [List.map_singleton, UInt8.toNat_ofNat', Nat.mod_eq_of_lt h]
section
variable {a : Act} {w : World} {o : Oper} {x : Operand}
theorem do_lmul {u : TypeId} (ho : o.op = .binOp .mul 23 x (.const (.int .u32 1664525)) u) {n : Nat} (hx : a.eval x = .int .u32 (n : Int)) : (execOp a.eval o).run Try.prog w = .ok (.value (.int .u32 ((n * 1664525 % 4294967296 : Nat) : Int))) w := by
  have hc : a.eval (.const (.int .u32 1664525)) = .int .u32 1664525 := rfl
  have e : IntKind.u32.wrap ((n : Int) * 1664525) = ((n * 1664525 % 4294967296 : Nat) : Int) := by rw [IntKind.wrap_u32]; omega
  unfold execOp; simp only [ho, hx, hc]; go_simp
theorem do_ladd {u : TypeId} (ho : o.op = .binOp .add 23 x (.const (.int .u32 1013904223)) u) {n : Nat} (hx : a.eval x = .int .u32 ((n * 1664525 % 4294967296 : Nat) : Int)) : (execOp a.eval o).run Try.prog w = .ok (.value (.int .u32 ((lcg n : Nat) : Int))) w := by
  have hc : a.eval (.const (.int .u32 1013904223)) = .int .u32 1013904223 := rfl
  have e : IntKind.u32.wrap ((n : Int) * 1664525 % 4294967296 + 1013904223) = ((lcg n : Nat) : Int) := by rw [IntKind.wrap_u32]; unfold lcg aff; omega
  unfold execOp; simp only [ho, hx, hc]; go_simp
theorem do_lshr {u : TypeId} (ho : o.op = .binOp .shr 23 x (.const (.int .u64 24)) u) {n : Nat} (hx : a.eval x = .int .u32 (n : Int)) : (execOp a.eval o).run Try.prog w = .ok (.value (.int .u32 ((n / 16777216 : Nat) : Int))) w := by
  have hc : a.eval (.const (.int .u64 24)) = .int .u64 24 := rfl
  unfold execOp; simp only [ho, hx, hc]; go_simp
end
theorem do_fld37_0 {a : Act} {w : World} {o : Oper} {x : Operand} (ho : o.op = .fieldAddr 37 x 0) {g k : Nat} (hx : a.eval x = .pointer (some ⟨g, k, none⟩)) : (execOp a.eval o).run Try.prog w = .ok (.value (.pointer (some ⟨g, k, none⟩))) w := by
  unfold execOp
  simp only [ho, hx]
  go_simp
set_option maxRecDepth 100000 in
theorem streamRead_ok (gs x : Nat) (ts : TypeId) (g off n c : Nat) (cur : List Value) (t : TypeId) (w : World) (hx : x < 4294967296) (hS : Blk w gs [.int .u32 ((itL 0 x : Nat) : Int)] ts) (hB : Blk w g cur t) (hfit : off + n ≤ cur.length) (hne : g ≠ gs) (hn : n ≤ 1000) :
    Calls Try.prog 52 #[.pointer (some ⟨gs, 0, none⟩), .slice (some ⟨g, off, none⟩) n c] w fun e w' => e = .returned (.tuple #[.int .i64 (n : Int), .nilIface]) ∧ Blk w' gs [.int .u32 ((itL n x : Nat) : Int)] ts ∧ Blk w' g (splice cur off (bvs (sb n x))) t ∧ Sets w w' [g, gs] ∧ w'.heap.size = w.heap.size := by
  go_enter Try.func52, Try.ntmps52
  refine of_keeps 33 [(1, .slice (some ⟨g, off, none⟩) n c), (0, .pointer (some ⟨gs, 0, none⟩))] ⟨by kernel_rfl, rfl, fun x hx => by simp at hx; rcases hx with rfl | rfl <;> rfl⟩ fun a hk => ?_
  refine wp_seq_k fun K0 hK0 => ?_
  refine wp_region_lit ?_
  refine list_k rfl rfl hk (by decide) (by repeat' (first | exact far_nil _ | refine far_cons (by decide) ?_)) (v := .int .i64 0) (do_assign rfl rfl) ?_
  clear hk; intro a hk
  refine list_k rfl rfl hk (by decide) (by repeat' (first | exact far_nil _ | refine far_cons (by decide) ?_)) (v := .nilIface) (do_assign rfl rfl) ?_
  clear hk; intro a hk
  refine hK0 _ _ ?_
  clear hK0
  have hk2 : Keeps 33 ([(1, .slice (some ⟨g, off, none⟩) n c), (0, .pointer (some ⟨gs, 0, none⟩))]) a := by
    refine ⟨hk.1, hk.2.1, fun x hx => hk.2.2 x ?_⟩
    rcases List.mem_cons.1 hx with rfl | hx
    · exact List.mem_cons_of_mem _ (List.mem_cons_of_mem _ (List.mem_cons_self ..))
    rcases List.mem_cons.1 hx with rfl | hx
    · exact List.mem_cons_of_mem _ (List.mem_cons_of_mem _ (List.mem_cons_of_mem _ (List.mem_cons_self ..)))
    cases hx
  clear hk
  have hk := hk2
  clear hk2
  refine wp_seq_k fun K1 hK1 => ?_
  refine wp_seq_k fun K2 hK2 => ?_
  refine wp_region_lit ?_
  refine list_k rfl rfl hk (by decide) (by repeat' (first | exact far_nil _ | refine far_cons (by decide) ?_)) (v := .slice (some ⟨g, off, none⟩) n c) (do_move rfl (hk.at (List.mem_cons_self ..))) ?_
  clear hk; intro a hk
  refine list_k rfl rfl hk (by decide) (by repeat' (first | exact far_nil _ | refine far_cons (by decide) ?_)) (v := .int .i64 ((n : Nat) : Int)) (do_lenS rfl (hk.at (List.mem_cons_self ..)) Try.underlying28) ?_
  clear hk; intro a hk
  refine list_k rfl rfl hk (by decide) (by repeat' (first | exact far_nil _ | refine far_cons (by decide) ?_)) (v := .int .i64 0) (do_move rfl rfl) ?_
  clear hk; intro a hk
  refine hK2 _ _ ?_
  clear hK2
  have hk2 : Keeps 33 ([(9, .int .i64 0), (8, .int .i64 ((n : Nat) : Int)), (1, .slice (some ⟨g, off, none⟩) n c), (0, .pointer (some ⟨gs, 0, none⟩))]) a := by
    refine ⟨hk.1, hk.2.1, fun x hx => hk.2.2 x ?_⟩
    rcases List.mem_cons.1 hx with rfl | hx
    · exact List.mem_cons_self ..
    rcases List.mem_cons.1 hx with rfl | hx
    · exact List.mem_cons_of_mem _ (List.mem_cons_self ..)
    rcases List.mem_cons.1 hx with rfl | hx
    · exact List.mem_cons_of_mem _ (List.mem_cons_of_mem _ (List.mem_cons_of_mem _ (List.mem_cons_self ..)))
    rcases List.mem_cons.1 hx with rfl | hx
    · exact List.mem_cons_of_mem _ (List.mem_cons_of_mem _ (List.mem_cons_of_mem _ (List.mem_cons_of_mem _ (List.mem_cons_self ..))))
    cases hx
  clear hk
  have hk := hk2
  clear hk2
  refine wp_block ?_
  refine wp_loop (fun a' w' => ∃ k, k ≤ n ∧ Keeps 33 [(9, .int .i64 ((k : Nat) : Int)), (8, .int .i64 ((n : Nat) : Int)), (1, .slice (some ⟨g, off, none⟩) n c), (0, .pointer (some ⟨gs, 0, none⟩))] a' ∧ Blk w' gs [.int .u32 ((itL k x : Nat) : Int)] ts ∧ Blk w' g (splice cur off (bvs (sb k x))) t ∧ Sets w w' [g, gs] ∧ w'.heap.size = w.heap.size) (fun a' _ => n - (intOf (a'.eval (.tmp 9))).toNat) ⟨0, Nat.zero_le _, hk, hS, by rw [show bvs (sb 0 x) = [] from rfl, splice_nil]; exact hB, Sets.refl _ _, rfl⟩ ?_
  clear hk hS hB
  rintro a w1 ⟨k, hkn, hk, hS, hB, hG, hz⟩
  have hmu : (intOf (a.eval (.tmp 9))).toNat = k := by
    rw [hk.at (t := 9) (v := .int .i64 ((k : Nat) : Int)) (by simp)]
    simp [intOf]
  refine wp_seq_k fun K6 hK6 => ?_
  refine wp_region_lit ?_
  refine list_k rfl rfl hk (by decide) (by repeat' (first | exact far_nil _ | refine far_cons (by decide) ?_)) (v := .bool (decide (k < n))) (do_lss rfl Try.underlying3 (hk.at (List.mem_cons_self ..)) (hk.at (List.mem_cons_of_mem _ (List.mem_cons_self ..)))) ?_
  clear hk; intro a hk
  refine hK6 _ _ ?_
  clear hK6
  refine wp_seq_k fun K5 hK5 => ?_
  refine wp_cond (hk.at (List.mem_cons_self ..)) ?_
  have hk2 : Keeps 33 ([(9, .int .i64 ((k : Nat) : Int)), (8, .int .i64 ((n : Nat) : Int)), (1, .slice (some ⟨g, off, none⟩) n c), (0, .pointer (some ⟨gs, 0, none⟩))]) a := by
    refine ⟨hk.1, hk.2.1, fun x hx => hk.2.2 x ?_⟩
    rcases List.mem_cons.1 hx with rfl | hx
    · exact List.mem_cons_of_mem _ (List.mem_cons_self ..)
    rcases List.mem_cons.1 hx with rfl | hx
    · exact List.mem_cons_of_mem _ (List.mem_cons_of_mem _ (List.mem_cons_self ..))
    rcases List.mem_cons.1 hx with rfl | hx
    · exact List.mem_cons_of_mem _ (List.mem_cons_of_mem _ (List.mem_cons_of_mem _ (List.mem_cons_self ..)))
    rcases List.mem_cons.1 hx with rfl | hx
    · exact List.mem_cons_of_mem _ (List.mem_cons_of_mem _ (List.mem_cons_of_mem _ (List.mem_cons_of_mem _ (List.mem_cons_self ..))))
    cases hx
  clear hk
  have hk := hk2
  clear hk2
  by_cases hlt : k < n
  case neg =>
    rw [decide_eq_false hlt]
    obtain rfl : k = n := by omega
    refine wp_exit ?_
    simp only [Exit.inBlock, Exit.then, if_true]
    refine hK1 _ _ ?_
    refine wp_seq_k fun K7 hK7 => ?_
    refine wp_region_lit ?_
    refine list_k rfl rfl hk (by decide) (by repeat' (first | exact far_nil _ | refine far_cons (by decide) ?_)) (v := .slice (some ⟨g, off, none⟩) k c) (do_move rfl (hk.at (List.mem_cons_of_mem _ (List.mem_cons_of_mem _ (List.mem_cons_self ..))))) ?_
    clear hk; intro a hk
    refine list_k rfl rfl hk (by decide) (by repeat' (first | exact far_nil _ | refine far_cons (by decide) ?_)) (v := .int .i64 ((k : Nat) : Int)) (do_lenS rfl (hk.at (List.mem_cons_self ..)) Try.underlying28) ?_
    clear hk; intro a hk
    refine list_k rfl rfl hk (by decide) (by repeat' (first | exact far_nil _ | refine far_cons (by decide) ?_)) (v := .int .i64 ((k : Nat) : Int)) (do_assign rfl (hk.at (List.mem_cons_self ..))) ?_
    clear hk; intro a hk
    refine list_k rfl rfl hk (by decide) (by repeat' (first | exact far_nil _ | refine far_cons (by decide) ?_)) (v := .nilIface) (do_assign rfl rfl) ?_
    clear hk; intro a hk
    refine hK7 _ _ (wp_ret ?_)
    have h4 := hk.at (t := 4) (v := .int .i64 ((k : Nat) : Int)) (by simp)
    have h5 := hk.at (t := 5) (v := .nilIface) (by simp)
    refine bodyPost_ret (results_tmp2 rfl _ _ _) hk.2.1 ?_
    have e : (.tuple #[a.tmps.getD 4 undef, a.tmps.getD 5 undef] : Value) = .tuple #[.int .i64 (k : Int), .nilIface] := by
      show (.tuple #[a.eval (.tmp 4), a.eval (.tmp 5)] : Value) = _
      rw [h4, h5]
    rw [e]
    exact ⟨rfl, hS, hB, hG, hz⟩
  case pos =>
    rw [decide_eq_true hlt]
    refine wp_skip (hK5 _ _ ?_)
    clear hK5 hK1
    have hit := itL_next k x
    have hlc := lcg_lt (itL k x)
    have hxk : itL k x < 4294967296 := itL_lt k x hx
    have hsbl : (bvs (sb k x)).length = k := by rw [bvs_length, sb_length]
    refine wp_seq_k fun K8 hK8 => wp_block ?_
    refine wp_seq_k fun K9 hK9 => ?_
    refine wp_region_lit ?_
    refine list_k rfl rfl hk (by decide) (by repeat' (first | exact far_nil _ | refine far_cons (by decide) ?_)) (v := .int .i64 ((k : Nat) : Int)) (do_move rfl (hk.at (List.mem_cons_self ..))) ?_
    clear hk; intro a hk
    refine list_k rfl rfl hk (by decide) (by repeat' (first | exact far_nil _ | refine far_cons (by decide) ?_)) (v := .int .i64 ((k : Nat) : Int)) (do_assign rfl (hk.at (List.mem_cons_self ..))) ?_
    clear hk; intro a hk
    refine hK9 _ _ ?_
    clear hK9
    have hk2 : Keeps 33 ([(6, .int .i64 ((k : Nat) : Int)), (9, .int .i64 ((k : Nat) : Int)), (8, .int .i64 ((n : Nat) : Int)), (1, .slice (some ⟨g, off, none⟩) n c), (0, .pointer (some ⟨gs, 0, none⟩))]) a := by
      refine ⟨hk.1, hk.2.1, fun x hx => hk.2.2 x ?_⟩
      rcases List.mem_cons.1 hx with rfl | hx
      · exact List.mem_cons_self ..
      rcases List.mem_cons.1 hx with rfl | hx
      · exact List.mem_cons_of_mem _ (List.mem_cons_of_mem _ (List.mem_cons_self ..))
      rcases List.mem_cons.1 hx with rfl | hx
      · exact List.mem_cons_of_mem _ (List.mem_cons_of_mem _ (List.mem_cons_of_mem _ (List.mem_cons_self ..)))
      rcases List.mem_cons.1 hx with rfl | hx
      · exact List.mem_cons_of_mem _ (List.mem_cons_of_mem _ (List.mem_cons_of_mem _ (List.mem_cons_of_mem _ (List.mem_cons_self ..))))
      rcases List.mem_cons.1 hx with rfl | hx
      · exact List.mem_cons_of_mem _ (List.mem_cons_of_mem _ (List.mem_cons_of_mem _ (List.mem_cons_of_mem _ (List.mem_cons_of_mem _ (List.mem_cons_self ..)))))
      cases hx
    clear hk
    have hk := hk2
    clear hk2
    refine wp_seq_k fun K10 hK10 => ?_
    refine wp_region_lit ?_
    refine list_k rfl rfl hk (by decide) (by repeat' (first | exact far_nil _ | refine far_cons (by decide) ?_)) (v := .pointer (some ⟨gs, 0, none⟩)) (do_move rfl (hk.at (List.mem_cons_of_mem _ (List.mem_cons_of_mem _ (List.mem_cons_of_mem _ (List.mem_cons_of_mem _ (List.mem_cons_self ..))))))) ?_
    clear hk; intro a hk
    refine list_k rfl rfl hk (by decide) (by repeat' (first | exact far_nil _ | refine far_cons (by decide) ?_)) (v := .pointer (some ⟨gs, 0, none⟩)) (do_move rfl (hk.at (List.mem_cons_of_mem _ (List.mem_cons_of_mem _ (List.mem_cons_of_mem _ (List.mem_cons_of_mem _ (List.mem_cons_of_mem _ (List.mem_cons_self ..)))))))) ?_
    clear hk; intro a hk
    refine list_k rfl rfl hk (by decide) (by repeat' (first | exact far_nil _ | refine far_cons (by decide) ?_)) (v := .pointer (some ⟨gs, 0, none⟩)) (do_nilc rfl (hk.at (List.mem_cons_self ..))) ?_
    clear hk; intro a hk
    refine list_k rfl rfl hk (by decide) (by repeat' (first | exact far_nil _ | refine far_cons (by decide) ?_)) (v := .pointer (some ⟨gs, 0, none⟩)) (do_fld37_0 rfl (hk.at (List.mem_cons_self ..))) ?_
    clear hk; intro a hk
    refine list_k rfl rfl hk (by decide) (by repeat' (first | exact far_nil _ | refine far_cons (by decide) ?_)) (v := .int .u32 ((itL k x : Nat) : Int)) (do_ldB rfl Try.underlying23 rfl (hk.at (List.mem_cons_self ..)) hS rfl) ?_
    clear hk; intro a hk
    refine list_k rfl rfl hk (by decide) (by repeat' (first | exact far_nil _ | refine far_cons (by decide) ?_)) (v := .int .u32 ((itL k x * 1664525 % 4294967296 : Nat) : Int)) (do_lmul rfl (hk.at (List.mem_cons_self ..))) ?_
    clear hk; intro a hk
    refine list_k rfl rfl hk (by decide) (by repeat' (first | exact far_nil _ | refine far_cons (by decide) ?_)) (v := .int .u32 ((lcg (itL k x) : Nat) : Int)) (do_ladd rfl (hk.at (List.mem_cons_self ..))) ?_
    clear hk; intro a hk
    refine list_k rfl rfl hk (by decide) (by repeat' (first | exact far_nil _ | refine far_cons (by decide) ?_)) (v := .pointer (some ⟨gs, 0, none⟩)) (do_nilc rfl (hk.at (List.mem_cons_of_mem _ (List.mem_cons_of_mem _ (List.mem_cons_of_mem _ (List.mem_cons_of_mem _ (List.mem_cons_of_mem _ (List.mem_cons_of_mem _ (List.mem_cons_self ..))))))))) ?_
    clear hk; intro a hk
    refine list_k rfl rfl hk (by decide) (by repeat' (first | exact far_nil _ | refine far_cons (by decide) ?_)) (v := .pointer (some ⟨gs, 0, none⟩)) (do_fld37_0 rfl (hk.at (List.mem_cons_self ..))) ?_
    clear hk; intro a hk
    refine wp_store_cell rfl rfl (by kernel_rfl) (hk.at (List.mem_cons_self ..)) (hk.at (List.mem_cons_of_mem _ (List.mem_cons_of_mem _ (List.mem_cons_self ..)))) rfl hS (Nat.le_of_ble_eq_true rfl) fun w2 b2 g2 s2 => ?_
    refine keep_0 hk ?_
    clear hk; intro a hk
    refine hK10 _ _ ?_
    clear hK10
    have hk2 : Keeps 33 ([(6, .int .i64 ((k : Nat) : Int)), (9, .int .i64 ((k : Nat) : Int)), (8, .int .i64 ((n : Nat) : Int)), (1, .slice (some ⟨g, off, none⟩) n c), (0, .pointer (some ⟨gs, 0, none⟩))]) a := by
      refine ⟨hk.1, hk.2.1, fun x hx => hk.2.2 x ?_⟩
      rcases List.mem_cons.1 hx with rfl | hx
      · exact List.mem_cons_of_mem _ (List.mem_cons_of_mem _ (List.mem_cons_of_mem _ (List.mem_cons_of_mem _ (List.mem_cons_of_mem _ (List.mem_cons_of_mem _ (List.mem_cons_of_mem _ (List.mem_cons_of_mem _ (List.mem_cons_of_mem _ (List.mem_cons_self ..)))))))))
      rcases List.mem_cons.1 hx with rfl | hx
      · exact List.mem_cons_of_mem _ (List.mem_cons_of_mem _ (List.mem_cons_of_mem _ (List.mem_cons_of_mem _ (List.mem_cons_of_mem _ (List.mem_cons_of_mem _ (List.mem_cons_of_mem _ (List.mem_cons_of_mem _ (List.mem_cons_of_mem _ (List.mem_cons_of_mem _ (List.mem_cons_self ..))))))))))
      rcases List.mem_cons.1 hx with rfl | hx
      · exact List.mem_cons_of_mem _ (List.mem_cons_of_mem _ (List.mem_cons_of_mem _ (List.mem_cons_of_mem _ (List.mem_cons_of_mem _ (List.mem_cons_of_mem _ (List.mem_cons_of_mem _ (List.mem_cons_of_mem _ (List.mem_cons_of_mem _ (List.mem_cons_of_mem _ (List.mem_cons_of_mem _ (List.mem_cons_self ..)))))))))))
      rcases List.mem_cons.1 hx with rfl | hx
      · exact List.mem_cons_of_mem _ (List.mem_cons_of_mem _ (List.mem_cons_of_mem _ (List.mem_cons_of_mem _ (List.mem_cons_of_mem _ (List.mem_cons_of_mem _ (List.mem_cons_of_mem _ (List.mem_cons_of_mem _ (List.mem_cons_of_mem _ (List.mem_cons_of_mem _ (List.mem_cons_of_mem _ (List.mem_cons_of_mem _ (List.mem_cons_self ..))))))))))))
      rcases List.mem_cons.1 hx with rfl | hx
      · exact List.mem_cons_of_mem _ (List.mem_cons_of_mem _ (List.mem_cons_of_mem _ (List.mem_cons_of_mem _ (List.mem_cons_of_mem _ (List.mem_cons_of_mem _ (List.mem_cons_of_mem _ (List.mem_cons_of_mem _ (List.mem_cons_of_mem _ (List.mem_cons_of_mem _ (List.mem_cons_of_mem _ (List.mem_cons_of_mem _ (List.mem_cons_of_mem _ (List.mem_cons_self ..)))))))))))))
      cases hx
    clear hk
    have hk := hk2
    clear hk2
    have b2' : Blk w2 gs [.int .u32 ((lcg (itL k x) : Nat) : Int)] ts := b2
    have hB2 := hB.grown g2 (by intro e; exact hne (Option.some.inj e))
    refine wp_region_lit ?_
    refine list_k rfl rfl hk (by decide) (by repeat' (first | exact far_nil _ | refine far_cons (by decide) ?_)) (v := .slice (some ⟨g, off, none⟩) n c) (do_move rfl (hk.at (List.mem_cons_of_mem _ (List.mem_cons_of_mem _ (List.mem_cons_of_mem _ (List.mem_cons_self ..)))))) ?_
    clear hk; intro a hk
    refine list_k rfl rfl hk (by decide) (by repeat' (first | exact far_nil _ | refine far_cons (by decide) ?_)) (v := .int .i64 ((k : Nat) : Int)) (do_move rfl (hk.at (List.mem_cons_of_mem _ (List.mem_cons_self ..)))) ?_
    clear hk; intro a hk
    refine list_k rfl rfl hk (by decide) (by repeat' (first | exact far_nil _ | refine far_cons (by decide) ?_)) (v := .pointer (some ⟨gs, 0, none⟩)) (do_move rfl (hk.at (List.mem_cons_of_mem _ (List.mem_cons_of_mem _ (List.mem_cons_of_mem _ (List.mem_cons_of_mem _ (List.mem_cons_of_mem _ (List.mem_cons_of_mem _ (List.mem_cons_self ..))))))))) ?_
    clear hk; intro a hk
    refine list_k rfl rfl hk (by decide) (by repeat' (first | exact far_nil _ | refine far_cons (by decide) ?_)) (v := .pointer (some ⟨gs, 0, none⟩)) (do_nilc rfl (hk.at (List.mem_cons_self ..))) ?_
    clear hk; intro a hk
    refine list_k rfl rfl hk (by decide) (by repeat' (first | exact far_nil _ | refine far_cons (by decide) ?_)) (v := .pointer (some ⟨gs, 0, none⟩)) (do_fld37_0 rfl (hk.at (List.mem_cons_self ..))) ?_
    clear hk; intro a hk
    refine list_k rfl rfl hk (by decide) (by repeat' (first | exact far_nil _ | refine far_cons (by decide) ?_)) (v := .int .u32 ((lcg (itL k x) : Nat) : Int)) (do_ldB rfl Try.underlying23 rfl (hk.at (List.mem_cons_self ..)) b2' rfl) ?_
    clear hk; intro a hk
    refine list_k rfl rfl hk (by decide) (by repeat' (first | exact far_nil _ | refine far_cons (by decide) ?_)) (v := .int .u32 ((lcg (itL k x) / 16777216 : Nat) : Int)) (do_lshr rfl (hk.at (List.mem_cons_self ..))) ?_
    clear hk; intro a hk
    refine list_k rfl rfl hk (by decide) (by repeat' (first | exact far_nil _ | refine far_cons (by decide) ?_)) (v := .int .u8 ((lcg (itL k x) / 16777216 : Nat) : Int)) (do_cvtN rfl Try.underlying23 Try.underlying5 (hk.at (List.mem_cons_self ..)) (by rw [IntKind.wrap_u8]; omega)) ?_
    clear hk; intro a hk
    refine list_k rfl rfl hk (by decide) (by repeat' (first | exact far_nil _ | refine far_cons (by decide) ?_)) (v := .pointer (some ⟨g, off + k, none⟩)) (still_index (S := fun _ => True) rfl Try.underlying28 (by kernel_rfl) (hk.at (List.mem_cons_of_mem _ (List.mem_cons_of_mem _ (List.mem_cons_of_mem _ (List.mem_cons_of_mem _ (List.mem_cons_of_mem _ (List.mem_cons_of_mem _ (List.mem_cons_of_mem _ (List.mem_cons_self ..))))))))) k (hk.at (List.mem_cons_of_mem _ (List.mem_cons_of_mem _ (List.mem_cons_of_mem _ (List.mem_cons_of_mem _ (List.mem_cons_of_mem _ (List.mem_cons_of_mem _ (List.mem_cons_self ..)))))))) (by omega) _ trivial) ?_
    clear hk; intro a hk
    refine wp_store_cell rfl rfl (by kernel_rfl) (hk.at (List.mem_cons_self ..)) (hk.at (List.mem_cons_of_mem _ (List.mem_cons_self ..))) rfl hB2 (by rw [length_splice _ _ _ (by rw [hsbl]; omega)]; omega) fun w3 b3 g3 s3 => ?_
    refine keep_0 hk ?_
    clear hk; intro a hk
    refine hK8 _ _ ?_
    clear hK8
    have hk2 : Keeps 33 ([(9, .int .i64 ((k : Nat) : Int)), (8, .int .i64 ((n : Nat) : Int)), (1, .slice (some ⟨g, off, none⟩) n c), (0, .pointer (some ⟨gs, 0, none⟩))]) a := by
      refine ⟨hk.1, hk.2.1, fun x hx => hk.2.2 x ?_⟩
      rcases List.mem_cons.1 hx with rfl | hx
      · exact List.mem_cons_of_mem _ (List.mem_cons_of_mem _ (List.mem_cons_of_mem _ (List.mem_cons_of_mem _ (List.mem_cons_of_mem _ (List.mem_cons_of_mem _ (List.mem_cons_of_mem _ (List.mem_cons_of_mem _ (List.mem_cons_of_mem _ (List.mem_cons_of_mem _ (List.mem_cons_self ..))))))))))
      rcases List.mem_cons.1 hx with rfl | hx
      · exact List.mem_cons_of_mem _ (List.mem_cons_of_mem _ (List.mem_cons_of_mem _ (List.mem_cons_of_mem _ (List.mem_cons_of_mem _ (List.mem_cons_of_mem _ (List.mem_cons_of_mem _ (List.mem_cons_of_mem _ (List.mem_cons_of_mem _ (List.mem_cons_of_mem _ (List.mem_cons_of_mem _ (List.mem_cons_self ..)))))))))))
      rcases List.mem_cons.1 hx with rfl | hx
      · exact List.mem_cons_of_mem _ (List.mem_cons_of_mem _ (List.mem_cons_of_mem _ (List.mem_cons_of_mem _ (List.mem_cons_of_mem _ (List.mem_cons_of_mem _ (List.mem_cons_of_mem _ (List.mem_cons_of_mem _ (List.mem_cons_of_mem _ (List.mem_cons_of_mem _ (List.mem_cons_of_mem _ (List.mem_cons_of_mem _ (List.mem_cons_self ..))))))))))))
      rcases List.mem_cons.1 hx with rfl | hx
      · exact List.mem_cons_of_mem _ (List.mem_cons_of_mem _ (List.mem_cons_of_mem _ (List.mem_cons_of_mem _ (List.mem_cons_of_mem _ (List.mem_cons_of_mem _ (List.mem_cons_of_mem _ (List.mem_cons_of_mem _ (List.mem_cons_of_mem _ (List.mem_cons_of_mem _ (List.mem_cons_of_mem _ (List.mem_cons_of_mem _ (List.mem_cons_of_mem _ (List.mem_cons_self ..)))))))))))))
      cases hx
    clear hk
    have hk := hk2
    clear hk2
    refine wp_region_lit ?_
    refine list_k rfl rfl hk (by decide) (by repeat' (first | exact far_nil _ | refine far_cons (by decide) ?_)) (v := .int .i64 ((k + 1 : Nat) : Int)) ((do_addN (n := 1) rfl Try.underlying3 (hk.at (List.mem_cons_self ..)) rfl (by rw [IntKind.wrap_i64]; omega))) ?_
    clear hk; intro a hk
    have hk2 : Keeps 33 ([(30, .int .i64 ((k + 1 : Nat) : Int)), (8, .int .i64 ((n : Nat) : Int)), (1, .slice (some ⟨g, off, none⟩) n c), (0, .pointer (some ⟨gs, 0, none⟩))]) a := by
      refine ⟨hk.1, hk.2.1, fun x hx => hk.2.2 x ?_⟩
      rcases List.mem_cons.1 hx with rfl | hx
      · exact List.mem_cons_self ..
      rcases List.mem_cons.1 hx with rfl | hx
      · exact List.mem_cons_of_mem _ (List.mem_cons_of_mem _ (List.mem_cons_self ..))
      rcases List.mem_cons.1 hx with rfl | hx
      · exact List.mem_cons_of_mem _ (List.mem_cons_of_mem _ (List.mem_cons_of_mem _ (List.mem_cons_self ..)))
      rcases List.mem_cons.1 hx with rfl | hx
      · exact List.mem_cons_of_mem _ (List.mem_cons_of_mem _ (List.mem_cons_of_mem _ (List.mem_cons_of_mem _ (List.mem_cons_self ..))))
      cases hx
    clear hk
    have hk := hk2
    clear hk2
    refine list_k rfl rfl hk (by decide) (by repeat' (first | exact far_nil _ | refine far_cons (by decide) ?_)) (v := .int .i64 ((k + 1 : Nat) : Int)) (do_move rfl (hk.at (List.mem_cons_self ..))) ?_
    clear hk; intro a hk
    have hk2 : Keeps 33 ([(9, .int .i64 ((k + 1 : Nat) : Int)), (8, .int .i64 ((n : Nat) : Int)), (1, .slice (some ⟨g, off, none⟩) n c), (0, .pointer (some ⟨gs, 0, none⟩))]) a := by
      refine ⟨hk.1, hk.2.1, fun x hx => hk.2.2 x ?_⟩
      rcases List.mem_cons.1 hx with rfl | hx
      · exact List.mem_cons_self ..
      rcases List.mem_cons.1 hx with rfl | hx
      · exact List.mem_cons_of_mem _ (List.mem_cons_of_mem _ (List.mem_cons_self ..))
      rcases List.mem_cons.1 hx with rfl | hx
      · exact List.mem_cons_of_mem _ (List.mem_cons_of_mem _ (List.mem_cons_of_mem _ (List.mem_cons_self ..)))
      rcases List.mem_cons.1 hx with rfl | hx
      · exact List.mem_cons_of_mem _ (List.mem_cons_of_mem _ (List.mem_cons_of_mem _ (List.mem_cons_of_mem _ (List.mem_cons_self ..))))
      cases hx
    clear hk
    have hk := hk2
    clear hk2
    have hk2 : Keeps 33 [(9, .int .i64 ((k + 1 : Nat) : Int)), (8, .int .i64 ((n : Nat) : Int)), (1, .slice (some ⟨g, off, none⟩) n c), (0, .pointer (some ⟨gs, 0, none⟩))] a := hk.sub (fun x hx => by simp at hx ⊢; rcases hx with rfl | rfl | rfl | rfl <;> simp)
    have e : (splice cur off (bvs (sb k x))).set (off + k) (.int .u8 ((lcg (itL k x) / 16777216 : Nat) : Int)) = splice cur off (bvs (sb (k + 1) x)) := by
      rw [set_splice _ _ hsbl (by omega), sb_succ, bvs_append, hit, bvs_single _ (by omega)]
    rw [e] at b3
    refine ⟨⟨k + 1, by omega, hk2, by rw [hit]; exact b2'.grown g3 (by intro e; exact hne (Option.some.inj e).symm), b3, hG.trans (((sets_grown g2).mono (by simp)).trans ((sets_grown g3).mono (by simp))), by rw [s3, s2, hz]⟩, ?_⟩
    rw [hmu, hk2.at (t := 9) (v := .int .i64 ((k + 1 : Nat) : Int)) (by simp)]
    simp [intOf]
    omega
end Go.Proofs.Ytcojcohipmoopaa
