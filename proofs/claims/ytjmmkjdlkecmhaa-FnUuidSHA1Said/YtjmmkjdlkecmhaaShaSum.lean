/- Contract of SHA-1's checkSum: the sum of the bytes and of what is laid behind them. -/
import Derived.Test.YtjmmkjdlkecmhaaShaPut
namespace Go.Proofs.Ytjmmkjdlkecmhaa
open Go.RowKit
set_option linter.unusedVariables false
set_option linter.unusedSimpArgs false
theorem d20Arr : Arr Try.prog 50 20 (List.replicate 20 (.int .u8 0)) where
  und := ⟨_, Try.underlying50, rfl⟩
  size := by kernel_rfl
  zero := fun w => by kernel_rfl
  len := rfl
theorem d72Arr : Arr Try.prog 55 72 (List.replicate 72 (.int .u8 0)) where
  und := ⟨_, Try.underlying55, rfl⟩
  size := by kernel_rfl
  zero := fun w => by kernel_rfl
  len := rfl
/-- What is laid behind so many bytes. -/
def padT (n : Nat) : Nat := if n % 64 < 56 then 56 - n % 64 else 120 - n % 64
theorem padT_pos (n : Nat) : 1 ≤ padT n ∧ padT n ≤ 64 ∧ (n + (padT n + 8)) % 64 = 0 := by unfold padT; split <;> omega
def padB (n : Nat) : List UInt8 := (128 :: List.replicate (padT n - 1) 0) ++ be 8 (8 * n)
theorem padB_length (n : Nat) : (padB n).length = padT n + 8 := by
  have := padT_pos n
  unfold padB
  rw [List.length_append, be_length, List.length_cons, List.length_replicate]
  omega
theorem pad_cells (n : Nat) : splice ((List.replicate 72 (.int .u8 0)).set 0 (.int .u8 128)) (padT n) (bvs (be 8 (8 * n))) = bvs (padB n) ++ List.replicate (64 - padT n) (.int .u8 0) := by
  have hp := padT_pos n
  have e : ((List.replicate 72 (.int .u8 0)).set 0 (.int .u8 128) : List Value) = .int .u8 128 :: List.replicate 71 (.int .u8 0) := rfl
  obtain ⟨q, hq⟩ : ∃ q, padT n = q + 1 := ⟨padT n - 1, by omega⟩
  unfold splice padB
  rw [e, bvs_length, be_length, hq, Nat.add_sub_cancel, List.take_succ_cons, List.take_replicate, show q + 1 + 8 = (q + 8) + 1 by omega, List.drop_succ_cons, List.drop_replicate, bvs_append, show min q 71 = q by omega, show 71 - (q + 8) = 64 - (q + 1) by omega]
  simp [bvs, bv]
/-- The bytes of the sum of some bytes. -/
def hbytes (h : Hs) : List UInt8 := b32 h.a ++ (b32 h.b ++ (b32 h.c ++ (b32 h.d ++ b32 h.e)))
def shaB (m : List UInt8) : List UInt8 := hbytes (sums (m ++ padB m.length))
theorem shaB_length (m : List UInt8) : (shaB m).length = 20 := rfl
section
variable {a : Act} {w : World} {o : Oper} {x y : Operand}
theorem do_rem64 {u : TypeId} (ho : o.op = .binOp .rem 46 x (.const (.int .u64 64)) u) {n : Nat} (hx : a.eval x = .int .u64 (n : Int)) (hn : n < 1000000000) : (execOp a.eval o).run Try.prog w = .ok (.value (.int .u64 ((n % 64 : Nat) : Int))) w := by
  have hc : a.eval (.const (.int .u64 64)) = .int .u64 64 := rfl
  have e : IntKind.u64.wrap (((n : Int)).tmod 64) = ((n % 64 : Nat) : Int) := by rw [IntKind.wrap_u64, Int.tmod_eq_emod_of_nonneg (by omega)]; omega
  have e2 : ((n : Int)).tmod 64 = ((n % 64 : Nat) : Int) := by rw [Int.tmod_eq_emod_of_nonneg (by omega)]; omega
  unfold execOp; simp only [ho, hx, hc]; go_simp
theorem do_shl3 {u : TypeId} (ho : o.op = .binOp .shl 46 x (.const (.int .u64 3)) u) {n : Nat} (hx : a.eval x = .int .u64 (n : Int)) (hn : n < 1000000000) : (execOp a.eval o).run Try.prog w = .ok (.value (.int .u64 ((8 * n : Nat) : Int))) w := by
  have hc : a.eval (.const (.int .u64 3)) = .int .u64 3 := rfl
  have e : IntKind.u64.wrap ((n : Int) * 8) = ((8 * n : Nat) : Int) := by rw [IntKind.wrap_u64]; omega
  unfold execOp; simp only [ho, hx, hc]; go_simp
theorem do_t0 (ho : o.op = .indexAddr 55 x (.const (.int .i64 0))) {g : Nat} (hx : a.eval x = .pointer (some ⟨g, 0, none⟩)) : (execOp a.eval o).run Try.prog w = .ok (.value (.pointer (some ⟨g, 0, none⟩))) w := by
  have hc : a.eval (.const (.int .i64 0)) = .int .i64 0 := rfl
  unfold execOp; simp only [ho, hx, hc]; go_simp
theorem do_tto (ho : o.op = .slice 55 x none (some y) none) {g k : Nat} (hx : a.eval x = .pointer (some ⟨g, 0, none⟩)) (hy : a.eval y = .int .u64 (k : Int)) (hk : k ≤ 72) : (execOp a.eval o).run Try.prog w = .ok (.value (.slice (some ⟨g, 0, none⟩) k 72)) w := by
  have h4 : (0 : Int) ≤ (k : Int) := by omega
  have h5 : (k : Int) ≤ 72 := by omega
  have e : (some y).map a.eval = some (.int .u64 (k : Int)) := by simp [hy]
  unfold execOp
  simp only [ho, hx, e]
  go_simp
theorem do_tailU {t e : TypeId} (ho : o.op = .slice t x (some y) none none) (hu : Try.prog.underlying t = some (.slice e)) (hs : (Try.prog.info? e).map (·.size) = some 1)
    {b off n c k : Nat} (hx : a.eval x = .slice (some ⟨b, off, none⟩) n c) (hy : a.eval y = .int .u64 (k : Int)) (hk : k ≤ n) (hc : n ≤ c) : (execOp a.eval o).run Try.prog w = .ok (.value (.slice (some ⟨b, tailOff c k off, none⟩) (n - k) (c - k))) w := by
  cases hq : Try.prog.info? e with
  | none => simp [hq] at hs
  | some inf =>
    have hs1 : inf.size = 1 := by simpa [hq] using hs
    unfold execOp
    simp [ho, hx, hy, Instr.sliceAt, run_underlying hu, Instr.slice, Instr.sliceBounds, Instr.sliceBound, asIntOf, sizeOf, typeInfo, hq, Result.andThen, hk, hs1, Addr.add, tailOff]
    split
    · rfl
    · by_cases h0 : k = 0
      · subst h0; simp
      · simp [h0]
theorem do_dfrom {k : Nat} (ho : o.op = .slice 50 x (some (.const (.int .i64 (k : Int)))) none none) {g : Nat} (hx : a.eval x = .pointer (some ⟨g, 0, none⟩)) (hk : k < 20) : (execOp a.eval o).run Try.prog w = .ok (.value (.slice (some ⟨g, k, none⟩) (20 - k) (20 - k))) w := by
  have h1 : ¬ k = 20 := by omega
  have h3 : ¬ 20 = k := by omega
  have h4 : (0 : Int) ≤ (k : Int) := by omega
  have h5 : (k : Int) ≤ 20 := by omega
  have e : (some (Operand.const (.int .i64 (k : Int)))).map a.eval = some (.int .i64 (k : Int)) := rfl
  unfold execOp
  simp only [ho, hx, e]
  go_simp
theorem do_hat' {j : Nat} (ho : o.op = .indexAddr 44 x (.const (.int .i64 (j : Int)))) {g : Nat} (hx : a.eval x = .pointer (some ⟨g, 0, none⟩)) (hj : j < 5) : (execOp a.eval o).run Try.prog w = .ok (.value (.pointer (some ⟨g, j, none⟩))) w := do_hat ho hx hj
end
theorem put32_enter (u v : Value) (w : World) : (callFunc 24 #[u, v]).run Try.prog w = .ok (.enter 24 #[u, v]) w := by
  have h := Try.func24
  go_simp
theorem put64_enter (u v : Value) (w : World) : (callFunc 23 #[u, v]).run Try.prog w = .ok (.enter 23 #[u, v]) w := by
  have h := Try.func23
  go_simp
theorem write_enter (u v : Value) (w : World) : (callFunc 10 #[u, v]).run Try.prog w = .ok (.enter 10 #[u, v]) w := by
  have h := Try.func10
  go_simp
theorem do_fld48_0 {a : Act} {w : World} {o : Oper} {x : Operand} (ho : o.op = .fieldAddr 48 x 0) {g k : Nat} (hx : a.eval x = .pointer (some ⟨g, k, none⟩)) : (execOp a.eval o).run Try.prog w = .ok (.value (.pointer (some ⟨g, k, none⟩))) w := by
  unfold execOp
  simp only [ho, hx]
  go_simp
set_option maxRecDepth 100000 in
theorem checkSum_ok (g : Nat) (m : List UInt8) (t : TypeId) (w : World) (hD : Dg w g m m.length t) (hsz : m.length ≤ 1000) :
    Calls Try.prog 18 #[.pointer (some ⟨g, 0, none⟩)] w fun e w' => e = .returned (.agg (bvs (shaB m)).toArray) ∧ w.grownBy w' (some g) := by
  obtain ⟨n, hn⟩ : ∃ n, m.length = n := ⟨_, rfl⟩
  have hp := padT_pos n
  have hpl := padB_length n
  have hpc := pad_cells n
  go_enter Try.func18, Try.ntmps18
  refine of_keeps 77 [(0, .pointer (some ⟨g, 0, none⟩))] ⟨by kernel_rfl, rfl, fun x hx => by simp at hx; rcases hx with rfl; rfl⟩ fun a hk => ?_
  refine wp_seq_k fun K0 hK0 => ?_
  refine wp_region_lit ?_
  refine wp_alloc_blk d20Arr (Below.refl w.heap.size w) rfl rfl rfl (Nat.le_refl _) ?_
  intro w1 b1 g1 s1 _
  obtain ⟨N0, hN0⟩ : ∃ N, w.heap.size = N := ⟨_, rfl⟩
  rw [hN0] at b1 s1 ⊢
  refine keep_k (v := .pointer (some ⟨N0, 0, none⟩)) hk (by decide) (by repeat' (first | exact far_nil _ | refine far_cons (by decide) ?_)) ?_
  clear hk; intro a hk
  refine hK0 _ _ ?_
  clear hK0
  have hgl : g < N0 := by have := hD.head; omega
  obtain ⟨x1, hx1, hx1t, hB1⟩ := hD
  have hB1 := hB1.grown g1 (by simp)
  rw [hn] at hB1
  refine wp_seq_k fun K1 hK1 => ?_
  refine wp_region_lit ?_
  refine list_k rfl rfl hk (by decide) (by repeat' (first | exact far_nil _ | refine far_cons (by decide) ?_)) (v := .pointer (some ⟨g, 0, none⟩)) (do_move rfl (hk.at (List.mem_cons_of_mem _ (List.mem_cons_self ..)))) ?_
  clear hk; intro a hk
  refine list_k rfl rfl hk (by decide) (by repeat' (first | exact far_nil _ | refine far_cons (by decide) ?_)) (v := .pointer (some ⟨g, 0, none⟩)) (do_nilc rfl (hk.at (List.mem_cons_self ..))) ?_
  clear hk; intro a hk
  refine list_k rfl rfl hk (by decide) (by repeat' (first | exact far_nil _ | refine far_cons (by decide) ?_)) (v := .pointer (some ⟨g, 70, none⟩)) (do_fld48_3 rfl (hk.at (List.mem_cons_self ..))) ?_
  clear hk; intro a hk
  refine list_k rfl rfl hk (by decide) (by repeat' (first | exact far_nil _ | refine far_cons (by decide) ?_)) (v := .int .u64 ((n : Nat) : Int)) (do_ldB rfl Try.underlying46 rfl (hk.at (List.mem_cons_self ..)) hB1 (dcells_len hx1)) ?_
  clear hk; intro a hk
  refine list_k rfl rfl hk (by decide) (by repeat' (first | exact far_nil _ | refine far_cons (by decide) ?_)) (v := .int .u64 ((n : Nat) : Int)) (do_assign rfl (hk.at (List.mem_cons_self ..))) ?_
  clear hk; intro a hk
  refine hK1 _ _ ?_
  clear hK1
  have hk2 : Keeps 77 ([(3, .int .u64 ((n : Nat) : Int)), (2, .pointer (some ⟨N0, 0, none⟩)), (0, .pointer (some ⟨g, 0, none⟩))]) a := by
    refine ⟨hk.1, hk.2.1, fun x hx => hk.2.2 x ?_⟩
    rcases List.mem_cons.1 hx with rfl | hx
    · exact List.mem_cons_self ..
    rcases List.mem_cons.1 hx with rfl | hx
    · exact List.mem_cons_of_mem _ (List.mem_cons_of_mem _ (List.mem_cons_of_mem _ (List.mem_cons_of_mem _ (List.mem_cons_of_mem _ (List.mem_cons_self ..)))))
    rcases List.mem_cons.1 hx with rfl | hx
    · exact List.mem_cons_of_mem _ (List.mem_cons_of_mem _ (List.mem_cons_of_mem _ (List.mem_cons_of_mem _ (List.mem_cons_of_mem _ (List.mem_cons_of_mem _ (List.mem_cons_self ..))))))
    cases hx
  clear hk
  have hk := hk2
  clear hk2
  refine wp_seq_k fun K2 hK2 => ?_
  refine wp_region_lit ?_
  refine wp_alloc_blk d72Arr (Below.refl w1.heap.size w1) rfl rfl rfl (Nat.le_refl _) ?_
  intro w2 b2 g2 s2 _
  obtain ⟨N1, hN1⟩ : ∃ N, w1.heap.size = N := ⟨_, rfl⟩
  rw [hN1] at b2 s2 ⊢
  refine keep_k (v := .pointer (some ⟨N1, 0, none⟩)) hk (by decide) (by repeat' (first | exact far_nil _ | refine far_cons (by decide) ?_)) ?_
  clear hk; intro a hk
  refine hK2 _ _ ?_
  clear hK2
  have h01 : N1 = N0 + 1 := by omega
  have b1 := b1.grown g2 (by simp)
  have hB1 := hB1.grown g2 (by simp)
  have G2 := grown_trans g1 g2
  clear g1 g2
  refine wp_seq_k fun K3 hK3 => ?_
  refine wp_region_lit ?_
  refine list_k rfl rfl hk (by decide) (by repeat' (first | exact far_nil _ | refine far_cons (by decide) ?_)) (v := .pointer (some ⟨N1, 0, none⟩)) (do_t0 rfl (hk.at (List.mem_cons_self ..))) ?_
  clear hk; intro a hk
  refine wp_store_cell (v := .int .u8 128) rfl rfl (by kernel_rfl) (hk.at (List.mem_cons_self ..)) rfl rfl b2 (by decide) fun w3 b3 g3 s3 => ?_
  refine keep_0 hk ?_
  clear hk; intro a hk
  refine hK3 _ _ ?_
  clear hK3
  have hk2 : Keeps 77 ([(4, .pointer (some ⟨N1, 0, none⟩)), (3, .int .u64 ((n : Nat) : Int)), (2, .pointer (some ⟨N0, 0, none⟩)), (0, .pointer (some ⟨g, 0, none⟩))]) a := by
    refine ⟨hk.1, hk.2.1, fun x hx => hk.2.2 x ?_⟩
    rcases List.mem_cons.1 hx with rfl | hx
    · exact List.mem_cons_of_mem _ (List.mem_cons_self ..)
    rcases List.mem_cons.1 hx with rfl | hx
    · exact List.mem_cons_of_mem _ (List.mem_cons_of_mem _ (List.mem_cons_self ..))
    rcases List.mem_cons.1 hx with rfl | hx
    · exact List.mem_cons_of_mem _ (List.mem_cons_of_mem _ (List.mem_cons_of_mem _ (List.mem_cons_self ..)))
    rcases List.mem_cons.1 hx with rfl | hx
    · exact List.mem_cons_of_mem _ (List.mem_cons_of_mem _ (List.mem_cons_of_mem _ (List.mem_cons_of_mem _ (List.mem_cons_self ..))))
    cases hx
  clear hk
  have hk := hk2
  clear hk2
  have b1 := b1.grown g3 (by simp; omega)
  have hB1 := hB1.grown g3 (by simp; omega)
  have G3 := grown_new G2 g3 (by omega)
  clear G2 g3 b2
  refine wp_seq_k fun K4 hK4 => ?_
  refine wp_region_lit ?_
  refine list_k rfl rfl hk (by decide) (by repeat' (first | exact far_nil _ | refine far_cons (by decide) ?_)) (v := .int .u64 0) (do_assign rfl rfl) ?_
  clear hk; intro a hk
  refine hK4 _ _ ?_
  clear hK4
  refine wp_seq_k fun K5 hK5 => ?_
  have HK : ∀ a, Keeps 77 [(5, .int .u64 ((padT n : Nat) : Int)), (4, .pointer (some ⟨N1, 0, none⟩)), (3, .int .u64 ((n : Nat) : Int)), (2, .pointer (some ⟨N0, 0, none⟩)), (0, .pointer (some ⟨g, 0, none⟩))] a → K5 a w3 := by
    intro a hk
    refine hK5 _ _ ?_
    refine wp_seq_k fun K8 hK8 => ?_
    refine wp_region_lit ?_
    refine list_k rfl rfl hk (by decide) (by repeat' (first | exact far_nil _ | refine far_cons (by decide) ?_)) (v := .int .u64 ((n : Nat) : Int)) (do_move rfl (hk.at (List.mem_cons_of_mem _ (List.mem_cons_of_mem _ (List.mem_cons_self ..))))) ?_
    clear hk; intro a hk
    refine list_k rfl rfl hk (by decide) (by repeat' (first | exact far_nil _ | refine far_cons (by decide) ?_)) (v := .int .u64 ((8 * n : Nat) : Int)) (do_shl3 rfl (hk.at (List.mem_cons_self ..)) (by omega)) ?_
    clear hk; intro a hk
    have hk2 : Keeps 77 ([(23, .int .u64 ((8 * n : Nat) : Int)), (22, .int .u64 ((n : Nat) : Int)), (5, .int .u64 ((padT n : Nat) : Int)), (4, .pointer (some ⟨N1, 0, none⟩)), (2, .pointer (some ⟨N0, 0, none⟩)), (0, .pointer (some ⟨g, 0, none⟩))]) a := by
      refine ⟨hk.1, hk.2.1, fun x hx => hk.2.2 x ?_⟩
      rcases List.mem_cons.1 hx with rfl | hx
      · exact List.mem_cons_self ..
      rcases List.mem_cons.1 hx with rfl | hx
      · exact List.mem_cons_of_mem _ (List.mem_cons_self ..)
      rcases List.mem_cons.1 hx with rfl | hx
      · exact List.mem_cons_of_mem _ (List.mem_cons_of_mem _ (List.mem_cons_self ..))
      rcases List.mem_cons.1 hx with rfl | hx
      · exact List.mem_cons_of_mem _ (List.mem_cons_of_mem _ (List.mem_cons_of_mem _ (List.mem_cons_self ..)))
      rcases List.mem_cons.1 hx with rfl | hx
      · exact List.mem_cons_of_mem _ (List.mem_cons_of_mem _ (List.mem_cons_of_mem _ (List.mem_cons_of_mem _ (List.mem_cons_of_mem _ (List.mem_cons_self ..)))))
      rcases List.mem_cons.1 hx with rfl | hx
      · exact List.mem_cons_of_mem _ (List.mem_cons_of_mem _ (List.mem_cons_of_mem _ (List.mem_cons_of_mem _ (List.mem_cons_of_mem _ (List.mem_cons_of_mem _ (List.mem_cons_self ..))))))
      cases hx
    clear hk
    have hk := hk2
    clear hk2
    refine list_k rfl rfl hk (by decide) (by repeat' (first | exact far_nil _ | refine far_cons (by decide) ?_)) (v := .int .u64 ((8 * n : Nat) : Int)) (do_assign rfl (hk.at (List.mem_cons_self ..))) ?_
    clear hk; intro a hk
    refine hK8 _ _ ?_
    clear hK8
    have hk2 : Keeps 77 ([(3, .int .u64 ((8 * n : Nat) : Int)), (5, .int .u64 ((padT n : Nat) : Int)), (4, .pointer (some ⟨N1, 0, none⟩)), (2, .pointer (some ⟨N0, 0, none⟩)), (0, .pointer (some ⟨g, 0, none⟩))]) a := by
      refine ⟨hk.1, hk.2.1, fun x hx => hk.2.2 x ?_⟩
      rcases List.mem_cons.1 hx with rfl | hx
      · exact List.mem_cons_self ..
      rcases List.mem_cons.1 hx with rfl | hx
      · exact List.mem_cons_of_mem _ (List.mem_cons_of_mem _ (List.mem_cons_of_mem _ (List.mem_cons_self ..)))
      rcases List.mem_cons.1 hx with rfl | hx
      · exact List.mem_cons_of_mem _ (List.mem_cons_of_mem _ (List.mem_cons_of_mem _ (List.mem_cons_of_mem _ (List.mem_cons_self ..))))
      rcases List.mem_cons.1 hx with rfl | hx
      · exact List.mem_cons_of_mem _ (List.mem_cons_of_mem _ (List.mem_cons_of_mem _ (List.mem_cons_of_mem _ (List.mem_cons_of_mem _ (List.mem_cons_self ..)))))
      rcases List.mem_cons.1 hx with rfl | hx
      · exact List.mem_cons_of_mem _ (List.mem_cons_of_mem _ (List.mem_cons_of_mem _ (List.mem_cons_of_mem _ (List.mem_cons_of_mem _ (List.mem_cons_of_mem _ (List.mem_cons_self ..))))))
      cases hx
    clear hk
    have hk := hk2
    clear hk2
    refine wp_seq_k fun K9 hK9 => ?_
    refine wp_region_lit ?_
    refine list_k rfl rfl hk (by decide) (by repeat' (first | exact far_nil _ | refine far_cons (by decide) ?_)) (v := .int .u64 ((padT n : Nat) : Int)) (do_move rfl (hk.at (List.mem_cons_of_mem _ (List.mem_cons_self ..)))) ?_
    clear hk; intro a hk
    refine list_k rfl rfl hk (by decide) (by repeat' (first | exact far_nil _ | refine far_cons (by decide) ?_)) (v := .int .u64 ((padT n + 8 : Nat) : Int)) ((do_addN (n := 8) rfl Try.underlying46 (hk.at (List.mem_cons_self ..)) rfl (by rw [IntKind.wrap_u64]; omega))) ?_
    clear hk; intro a hk
    refine list_k rfl rfl hk (by decide) (by repeat' (first | exact far_nil _ | refine far_cons (by decide) ?_)) (v := .slice (some ⟨N1, 0, none⟩) (padT n + 8) 72) (do_tto rfl (hk.at (List.mem_cons_of_mem _ (List.mem_cons_of_mem _ (List.mem_cons_of_mem _ (List.mem_cons_of_mem _ (List.mem_cons_self ..)))))) (hk.at (List.mem_cons_self ..)) (by omega)) ?_
    clear hk; intro a hk
    refine list_k rfl rfl hk (by decide) (by repeat' (first | exact far_nil _ | refine far_cons (by decide) ?_)) (v := .slice (some ⟨N1, 0, none⟩) (padT n + 8) 72) (do_assign rfl (hk.at (List.mem_cons_self ..))) ?_
    clear hk; intro a hk
    refine hK9 _ _ ?_
    clear hK9
    have hk2 : Keeps 77 ([(6, .slice (some ⟨N1, 0, none⟩) (padT n + 8) 72), (3, .int .u64 ((8 * n : Nat) : Int)), (5, .int .u64 ((padT n : Nat) : Int)), (4, .pointer (some ⟨N1, 0, none⟩)), (2, .pointer (some ⟨N0, 0, none⟩)), (0, .pointer (some ⟨g, 0, none⟩))]) a := by
      refine ⟨hk.1, hk.2.1, fun x hx => hk.2.2 x ?_⟩
      rcases List.mem_cons.1 hx with rfl | hx
      · exact List.mem_cons_self ..
      rcases List.mem_cons.1 hx with rfl | hx
      · exact List.mem_cons_of_mem _ (List.mem_cons_of_mem _ (List.mem_cons_of_mem _ (List.mem_cons_of_mem _ (List.mem_cons_self ..))))
      rcases List.mem_cons.1 hx with rfl | hx
      · exact List.mem_cons_of_mem _ (List.mem_cons_of_mem _ (List.mem_cons_of_mem _ (List.mem_cons_of_mem _ (List.mem_cons_of_mem _ (List.mem_cons_self ..)))))
      rcases List.mem_cons.1 hx with rfl | hx
      · exact List.mem_cons_of_mem _ (List.mem_cons_of_mem _ (List.mem_cons_of_mem _ (List.mem_cons_of_mem _ (List.mem_cons_of_mem _ (List.mem_cons_of_mem _ (List.mem_cons_self ..))))))
      rcases List.mem_cons.1 hx with rfl | hx
      · exact List.mem_cons_of_mem _ (List.mem_cons_of_mem _ (List.mem_cons_of_mem _ (List.mem_cons_of_mem _ (List.mem_cons_of_mem _ (List.mem_cons_of_mem _ (List.mem_cons_of_mem _ (List.mem_cons_self ..)))))))
      rcases List.mem_cons.1 hx with rfl | hx
      · exact List.mem_cons_of_mem _ (List.mem_cons_of_mem _ (List.mem_cons_of_mem _ (List.mem_cons_of_mem _ (List.mem_cons_of_mem _ (List.mem_cons_of_mem _ (List.mem_cons_of_mem _ (List.mem_cons_of_mem _ (List.mem_cons_self ..))))))))
      cases hx
    clear hk
    have hk := hk2
    clear hk2
    refine wp_seq_k fun K10 hK10 => ?_
    refine wp_region_lit ?_
    refine list_k rfl rfl hk (by decide) (by repeat' (first | exact far_nil _ | refine far_cons (by decide) ?_)) (v := .slice (some ⟨N1, 0, none⟩) (padT n + 8) 72) (do_move rfl (hk.at (List.mem_cons_self ..))) ?_
    clear hk; intro a hk
    refine list_k rfl rfl hk (by decide) (by repeat' (first | exact far_nil _ | refine far_cons (by decide) ?_)) (v := .int .u64 ((padT n : Nat) : Int)) (do_move rfl (hk.at (List.mem_cons_of_mem _ (List.mem_cons_of_mem _ (List.mem_cons_of_mem _ (List.mem_cons_self ..)))))) ?_
    clear hk; intro a hk
    refine list_k rfl rfl hk (by decide) (by repeat' (first | exact far_nil _ | refine far_cons (by decide) ?_)) (v := .slice (some ⟨N1, tailOff 72 (padT n) 0, none⟩) (padT n + 8 - padT n) (72 - padT n)) (do_tailU rfl Try.underlying22 (by kernel_rfl) (hk.at (List.mem_cons_of_mem _ (List.mem_cons_self ..))) (hk.at (List.mem_cons_self ..)) (by omega) (by omega)) ?_
    clear hk; intro a hk
    refine list_k rfl rfl hk (by decide) (by repeat' (first | exact far_nil _ | refine far_cons (by decide) ?_)) (v := .int .u64 ((8 * n : Nat) : Int)) (do_move rfl (hk.at (List.mem_cons_of_mem _ (List.mem_cons_of_mem _ (List.mem_cons_of_mem _ (List.mem_cons_of_mem _ (List.mem_cons_self ..))))))) ?_
    clear hk; intro a hk
    refine wp_call rfl (do_call2 rfl (hk.at (List.mem_cons_of_mem _ (List.mem_cons_self ..))) (hk.at (List.mem_cons_self ..)) (put64_enter _ _)) (put64_ok N1 (tailOff 72 (padT n) 0) _ _ (8 * n) _ _ _ b3 (by omega) (by rw [tailOff_lt (by omega)]; simp; omega)) ?_
    rintro e w4 ⟨rfl, b4, g4⟩
    refine ⟨_, rfl, ?_⟩
    rw [tailOff_lt (by omega), Nat.zero_add, hpc] at b4
    refine keep_k (v := .tuple #[]) hk (by decide) (by repeat' (first | exact far_nil _ | refine far_cons (by decide) ?_)) ?_
    clear hk; intro a hk
    refine hK10 _ _ ?_
    clear hK10
    have hk2 : Keeps 77 ([(6, .slice (some ⟨N1, 0, none⟩) (padT n + 8) 72), (2, .pointer (some ⟨N0, 0, none⟩)), (0, .pointer (some ⟨g, 0, none⟩))]) a := by
      refine ⟨hk.1, hk.2.1, fun x hx => hk.2.2 x ?_⟩
      rcases List.mem_cons.1 hx with rfl | hx
      · exact List.mem_cons_of_mem _ (List.mem_cons_of_mem _ (List.mem_cons_of_mem _ (List.mem_cons_of_mem _ (List.mem_cons_of_mem _ (List.mem_cons_self ..)))))
      rcases List.mem_cons.1 hx with rfl | hx
      · exact List.mem_cons_of_mem _ (List.mem_cons_of_mem _ (List.mem_cons_of_mem _ (List.mem_cons_of_mem _ (List.mem_cons_of_mem _ (List.mem_cons_of_mem _ (List.mem_cons_of_mem _ (List.mem_cons_of_mem _ (List.mem_cons_of_mem _ (List.mem_cons_self ..)))))))))
      rcases List.mem_cons.1 hx with rfl | hx
      · exact List.mem_cons_of_mem _ (List.mem_cons_of_mem _ (List.mem_cons_of_mem _ (List.mem_cons_of_mem _ (List.mem_cons_of_mem _ (List.mem_cons_of_mem _ (List.mem_cons_of_mem _ (List.mem_cons_of_mem _ (List.mem_cons_of_mem _ (List.mem_cons_of_mem _ (List.mem_cons_self ..))))))))))
      cases hx
    clear hk
    have hk := hk2
    clear hk2
    have b1 := b1.grown g4 (by simp; omega)
    have hB1 := hB1.grown g4 (by simp; omega)
    have G4 := grown_new G3 g4 (by omega)
    have r4 := b4.rdMore (by omega)
    clear G3 g4 b3
    refine wp_seq_k fun K11 hK11 => ?_
    refine wp_region_lit ?_
    refine list_k rfl rfl hk (by decide) (by repeat' (first | exact far_nil _ | refine far_cons (by decide) ?_)) (v := .pointer (some ⟨g, 0, none⟩)) (do_move rfl (hk.at (List.mem_cons_of_mem _ (List.mem_cons_of_mem _ (List.mem_cons_self ..))))) ?_
    clear hk; intro a hk
    refine list_k rfl rfl hk (by decide) (by repeat' (first | exact far_nil _ | refine far_cons (by decide) ?_)) (v := .slice (some ⟨N1, 0, none⟩) (padT n + 8) 72) (do_move rfl (hk.at (List.mem_cons_of_mem _ (List.mem_cons_self ..)))) ?_
    clear hk; intro a hk
    refine wp_call rfl (do_call2 rfl (hk.at (List.mem_cons_of_mem _ (List.mem_cons_self ..))) (hk.at (List.mem_cons_self ..)) (write_enter _ _)) (write_ok g m t (some ⟨N1, 0, none⟩) (padB n) (padT n + 8) 72 _ ⟨x1, hx1, hx1t, by rw [hn]; exact hB1⟩ r4 hpl (by omega) (by omega) (fun q hq _ => by cases hq; exact ⟨rfl, by show N1 ≠ g; omega⟩)) ?_
    rintro e w5 ⟨rfl, D5, g5⟩
    refine ⟨_, rfl, ?_⟩
    refine keep_k (v := .tuple #[.int .i64 ((padT n + 8 : Nat) : Int), .nilIface]) hk (by decide) (by repeat' (first | exact far_nil _ | refine far_cons (by decide) ?_)) ?_
    clear hk; intro a hk
    refine hK11 _ _ ?_
    clear hK11
    have hk2 : Keeps 77 ([(2, .pointer (some ⟨N0, 0, none⟩)), (0, .pointer (some ⟨g, 0, none⟩))]) a := by
      refine ⟨hk.1, hk.2.1, fun x hx => hk.2.2 x ?_⟩
      rcases List.mem_cons.1 hx with rfl | hx
      · exact List.mem_cons_of_mem _ (List.mem_cons_of_mem _ (List.mem_cons_of_mem _ (List.mem_cons_of_mem _ (List.mem_cons_self ..))))
      rcases List.mem_cons.1 hx with rfl | hx
      · exact List.mem_cons_of_mem _ (List.mem_cons_of_mem _ (List.mem_cons_of_mem _ (List.mem_cons_of_mem _ (List.mem_cons_of_mem _ (List.mem_cons_self ..)))))
      cases hx
    clear hk
    have hk := hk2
    clear hk2
    have b1 := b1.grown g5 (by simp; omega)
    have G5 := grown_trans (grown_none G4 (some g)) g5
    obtain ⟨x5, hx5, hx5t, hB5⟩ := D5
    have hm5 : (m ++ padB n).length % 64 = 0 := by rw [List.length_append, hpl, hn]; exact hp.2.2
    rw [hm5] at hB5
    clear G4 g5 b4 r4 hB1
    refine wp_seq_k fun K12 hK12 => ?_
    refine wp_seq_k fun K13 hK13 => ?_
    refine wp_region_lit ?_
    refine list_k rfl rfl hk (by decide) (by repeat' (first | exact far_nil _ | refine far_cons (by decide) ?_)) (v := .pointer (some ⟨g, 0, none⟩)) (do_move rfl (hk.at (List.mem_cons_of_mem _ (List.mem_cons_self ..)))) ?_
    clear hk; intro a hk
    refine list_k rfl rfl hk (by decide) (by repeat' (first | exact far_nil _ | refine far_cons (by decide) ?_)) (v := .pointer (some ⟨g, 0, none⟩)) (do_nilc rfl (hk.at (List.mem_cons_self ..))) ?_
    clear hk; intro a hk
    refine list_k rfl rfl hk (by decide) (by repeat' (first | exact far_nil _ | refine far_cons (by decide) ?_)) (v := .pointer (some ⟨g, 69, none⟩)) (do_fld48_2 rfl (hk.at (List.mem_cons_self ..))) ?_
    clear hk; intro a hk
    refine list_k rfl rfl hk (by decide) (by repeat' (first | exact far_nil _ | refine far_cons (by decide) ?_)) (v := .int .i64 ((0 : Nat) : Int)) (do_ldB rfl Try.underlying3 rfl (hk.at (List.mem_cons_self ..)) hB5 (dcells_nx hx5)) ?_
    clear hk; intro a hk
    refine list_k rfl rfl hk (by decide) (by repeat' (first | exact far_nil _ | refine far_cons (by decide) ?_)) (v := .bool (decide (¬ 0 = 0))) ((do_neq (m := 0) (n := 0) rfl Try.underlying3 (hk.at (List.mem_cons_self ..)) rfl)) ?_
    clear hk; intro a hk
    refine hK13 _ _ (wp_cond (hk.at (List.mem_cons_self ..)) ?_)
    clear hK13
    rw [decide_eq_false (by simp)]
    refine wp_skip ?_
    refine hK12 _ _ ?_
    clear hK12
    have hk2 : Keeps 77 ([(2, .pointer (some ⟨N0, 0, none⟩)), (0, .pointer (some ⟨g, 0, none⟩))]) a := by
      refine ⟨hk.1, hk.2.1, fun x hx => hk.2.2 x ?_⟩
      rcases List.mem_cons.1 hx with rfl | hx
      · exact List.mem_cons_of_mem _ (List.mem_cons_of_mem _ (List.mem_cons_of_mem _ (List.mem_cons_of_mem _ (List.mem_cons_of_mem _ (List.mem_cons_self ..)))))
      rcases List.mem_cons.1 hx with rfl | hx
      · exact List.mem_cons_of_mem _ (List.mem_cons_of_mem _ (List.mem_cons_of_mem _ (List.mem_cons_of_mem _ (List.mem_cons_of_mem _ (List.mem_cons_of_mem _ (List.mem_cons_self ..))))))
      cases hx
    clear hk
    have hk := hk2
    clear hk2
    refine wp_seq_k fun K14 hK14 => ?_
    refine wp_region_lit ?_
    refine wp_alloc_blk d20Arr (Below.refl w5.heap.size w5) rfl rfl rfl (Nat.le_refl _) ?_
    intro w6 b6 g6 s6 _
    obtain ⟨N2, hN2⟩ : ∃ N, w5.heap.size = N := ⟨_, rfl⟩
    rw [hN2] at b6 s6 ⊢
    refine keep_k (v := .pointer (some ⟨N2, 0, none⟩)) hk (by decide) (by repeat' (first | exact far_nil _ | refine far_cons (by decide) ?_)) ?_
    clear hk; intro a hk
    refine hK14 _ _ ?_
    clear hK14
    have h02 : N0 < N2 := by have := b1.lt; omega
    have hgN : g < N2 := by omega
    have b1 := b1.grown g6 (by simp)
    have hB6 := hB5.grown g6 (by simp)
    have G6 := grown_trans G5 (grown_none g6 _)
    clear G5 g6 hB5
    refine wp_seq_k fun K15 hK15 => ?_
    refine region_plan2 (fun w' => Below w6.heap.size w6 w') [(0, 0), (1, 0), (2, 0), (3, 0), (4, 0), (5, 0), (6, 2)] rfl (by kernel_rfl) (by kernel_rfl) rfl (by intro c a d v w h; cases d <;> exact h) (fun _ _ h => h) ?_
    intro OPS w6d hpW hbd
    clear hpW
    refine plan_k rfl hk (by decide) (by repeat' (first | exact far_nil _ | refine far_cons (by decide) ?_)) (v := .slice (some ⟨N2, 0, none⟩) (20 - 0) (20 - 0)) (fun o ho w' hS => do_dfrom (k := 0) ho (hk.at (List.mem_cons_self ..)) (by decide)) ?_
    clear hk; intro a hk
    refine plan_k rfl hk (by decide) (by repeat' (first | exact far_nil _ | refine far_cons (by decide) ?_)) (v := .pointer (some ⟨g, 0, none⟩)) (fun o ho w' hS => do_move ho (hk.at (List.mem_cons_of_mem _ (List.mem_cons_of_mem _ (List.mem_cons_of_mem _ (List.mem_cons_self ..)))))) ?_
    clear hk; intro a hk
    refine plan_k rfl hk (by decide) (by repeat' (first | exact far_nil _ | refine far_cons (by decide) ?_)) (v := .pointer (some ⟨g, 0, none⟩)) (fun o ho w' hS => do_nilc ho (hk.at (List.mem_cons_self ..))) ?_
    clear hk; intro a hk
    refine plan_k rfl hk (by decide) (by repeat' (first | exact far_nil _ | refine far_cons (by decide) ?_)) (v := .pointer (some ⟨g, 0, none⟩)) (fun o ho w' hS => do_fld48_0 ho (hk.at (List.mem_cons_self ..))) ?_
    clear hk; intro a hk
    refine plan_k rfl hk (by decide) (by repeat' (first | exact far_nil _ | refine far_cons (by decide) ?_)) (v := .pointer (some ⟨g, 0, none⟩)) (fun o ho w' hS => do_hat' (j := 0) ho (hk.at (List.mem_cons_self ..)) (by decide)) ?_
    clear hk; intro a hk
    refine plan_k rfl hk (by decide) (by repeat' (first | exact far_nil _ | refine far_cons (by decide) ?_)) (v := .int .u32 (sums (m ++ padB n)).a) (fun o ho w' hS => do_ldB ho Try.underlying43 rfl (hk.at (List.mem_cons_self ..)) (hB6.kept hS) rfl) ?_
    clear hk; intro a hk
    refine plan_kl2 rfl fun o ho hd hgd => ?_
    refine wp_call hgd (do_call2 ho (hk.at (List.mem_cons_of_mem _ (List.mem_cons_of_mem _ (List.mem_cons_of_mem _ (List.mem_cons_of_mem _ (List.mem_cons_of_mem _ (List.mem_cons_self ..))))))) (hk.at (List.mem_cons_self ..)) (put32_enter _ _)) (put32_ok N2 0 _ _ _ _ _ _ (b6.kept hbd) (by decide) (Nat.le_of_ble_eq_true rfl)) ?_
    rintro e w7 ⟨rfl, b7, g7⟩
    refine ⟨_, rfl, ?_⟩
    rw [hd]
    refine keep_k (v := .tuple #[]) hk (by decide) (by repeat' (first | exact far_nil _ | refine far_cons (by decide) ?_)) ?_
    clear hk; intro a hk
    show wpPlan _ OPS _ (fun w' => Below w6.heap.size w6 w') (planOps2 _ _) _ _
    refine plan_k0 ?_
    refine hK15 _ _ ?_
    clear hK15
    have hk2 : Keeps 77 ([(7, .pointer (some ⟨N2, 0, none⟩)), (2, .pointer (some ⟨N0, 0, none⟩)), (0, .pointer (some ⟨g, 0, none⟩))]) a := by
      refine ⟨hk.1, hk.2.1, fun x hx => hk.2.2 x ?_⟩
      rcases List.mem_cons.1 hx with rfl | hx
      · exact List.mem_cons_of_mem _ (List.mem_cons_of_mem _ (List.mem_cons_of_mem _ (List.mem_cons_of_mem _ (List.mem_cons_of_mem _ (List.mem_cons_of_mem _ (List.mem_cons_of_mem _ (List.mem_cons_self ..)))))))
      rcases List.mem_cons.1 hx with rfl | hx
      · exact List.mem_cons_of_mem _ (List.mem_cons_of_mem _ (List.mem_cons_of_mem _ (List.mem_cons_of_mem _ (List.mem_cons_of_mem _ (List.mem_cons_of_mem _ (List.mem_cons_of_mem _ (List.mem_cons_of_mem _ (List.mem_cons_self ..))))))))
      rcases List.mem_cons.1 hx with rfl | hx
      · exact List.mem_cons_of_mem _ (List.mem_cons_of_mem _ (List.mem_cons_of_mem _ (List.mem_cons_of_mem _ (List.mem_cons_of_mem _ (List.mem_cons_of_mem _ (List.mem_cons_of_mem _ (List.mem_cons_of_mem _ (List.mem_cons_of_mem _ (List.mem_cons_self ..)))))))))
      cases hx
    clear hk
    have hk := hk2
    clear hk2
    have gd := grown_trans (grown_below hbd (some N2)) g7
    have b1 := b1.grown gd (by simp; omega)
    have hB7 := hB6.grown gd (by simp; omega)
    have G7 := grown_new G6 gd (by omega)
    clear gd g7 G6 hB6 b6 hbd
    refine wp_seq_k fun K16 hK16 => ?_
    refine region_plan2 (fun w' => Below w7.heap.size w7 w') [(0, 0), (1, 0), (2, 0), (3, 0), (4, 0), (5, 0), (6, 2)] rfl (by kernel_rfl) (by kernel_rfl) rfl (by intro c a d v w h; cases d <;> exact h) (fun _ _ h => h) ?_
    intro OPS w7d hpW hbd
    clear hpW
    refine plan_k rfl hk (by decide) (by repeat' (first | exact far_nil _ | refine far_cons (by decide) ?_)) (v := .slice (some ⟨N2, 4, none⟩) (20 - 4) (20 - 4)) (fun o ho w' hS => do_dfrom (k := 4) ho (hk.at (List.mem_cons_self ..)) (by decide)) ?_
    clear hk; intro a hk
    refine plan_k rfl hk (by decide) (by repeat' (first | exact far_nil _ | refine far_cons (by decide) ?_)) (v := .pointer (some ⟨g, 0, none⟩)) (fun o ho w' hS => do_move ho (hk.at (List.mem_cons_of_mem _ (List.mem_cons_of_mem _ (List.mem_cons_of_mem _ (List.mem_cons_self ..)))))) ?_
    clear hk; intro a hk
    refine plan_k rfl hk (by decide) (by repeat' (first | exact far_nil _ | refine far_cons (by decide) ?_)) (v := .pointer (some ⟨g, 0, none⟩)) (fun o ho w' hS => do_nilc ho (hk.at (List.mem_cons_self ..))) ?_
    clear hk; intro a hk
    refine plan_k rfl hk (by decide) (by repeat' (first | exact far_nil _ | refine far_cons (by decide) ?_)) (v := .pointer (some ⟨g, 0, none⟩)) (fun o ho w' hS => do_fld48_0 ho (hk.at (List.mem_cons_self ..))) ?_
    clear hk; intro a hk
    refine plan_k rfl hk (by decide) (by repeat' (first | exact far_nil _ | refine far_cons (by decide) ?_)) (v := .pointer (some ⟨g, 1, none⟩)) (fun o ho w' hS => do_hat' (j := 1) ho (hk.at (List.mem_cons_self ..)) (by decide)) ?_
    clear hk; intro a hk
    refine plan_k rfl hk (by decide) (by repeat' (first | exact far_nil _ | refine far_cons (by decide) ?_)) (v := .int .u32 (sums (m ++ padB n)).b) (fun o ho w' hS => do_ldB ho Try.underlying43 rfl (hk.at (List.mem_cons_self ..)) (hB7.kept hS) rfl) ?_
    clear hk; intro a hk
    refine plan_kl2 rfl fun o ho hd hgd => ?_
    refine wp_call hgd (do_call2 ho (hk.at (List.mem_cons_of_mem _ (List.mem_cons_of_mem _ (List.mem_cons_of_mem _ (List.mem_cons_of_mem _ (List.mem_cons_of_mem _ (List.mem_cons_self ..))))))) (hk.at (List.mem_cons_self ..)) (put32_enter _ _)) (put32_ok N2 4 _ _ _ _ _ _ (b7.kept hbd) (by decide) (Nat.le_of_ble_eq_true rfl)) ?_
    rintro e w8 ⟨rfl, b8, g8⟩
    refine ⟨_, rfl, ?_⟩
    rw [hd]
    refine keep_k (v := .tuple #[]) hk (by decide) (by repeat' (first | exact far_nil _ | refine far_cons (by decide) ?_)) ?_
    clear hk; intro a hk
    show wpPlan _ OPS _ (fun w' => Below w7.heap.size w7 w') (planOps2 _ _) _ _
    refine plan_k0 ?_
    refine hK16 _ _ ?_
    clear hK16
    have hk2 : Keeps 77 ([(7, .pointer (some ⟨N2, 0, none⟩)), (2, .pointer (some ⟨N0, 0, none⟩)), (0, .pointer (some ⟨g, 0, none⟩))]) a := by
      refine ⟨hk.1, hk.2.1, fun x hx => hk.2.2 x ?_⟩
      rcases List.mem_cons.1 hx with rfl | hx
      · exact List.mem_cons_of_mem _ (List.mem_cons_of_mem _ (List.mem_cons_of_mem _ (List.mem_cons_of_mem _ (List.mem_cons_of_mem _ (List.mem_cons_of_mem _ (List.mem_cons_of_mem _ (List.mem_cons_self ..)))))))
      rcases List.mem_cons.1 hx with rfl | hx
      · exact List.mem_cons_of_mem _ (List.mem_cons_of_mem _ (List.mem_cons_of_mem _ (List.mem_cons_of_mem _ (List.mem_cons_of_mem _ (List.mem_cons_of_mem _ (List.mem_cons_of_mem _ (List.mem_cons_of_mem _ (List.mem_cons_self ..))))))))
      rcases List.mem_cons.1 hx with rfl | hx
      · exact List.mem_cons_of_mem _ (List.mem_cons_of_mem _ (List.mem_cons_of_mem _ (List.mem_cons_of_mem _ (List.mem_cons_of_mem _ (List.mem_cons_of_mem _ (List.mem_cons_of_mem _ (List.mem_cons_of_mem _ (List.mem_cons_of_mem _ (List.mem_cons_self ..)))))))))
      cases hx
    clear hk
    have hk := hk2
    clear hk2
    have gd := grown_trans (grown_below hbd (some N2)) g8
    have b1 := b1.grown gd (by simp; omega)
    have hB8 := hB7.grown gd (by simp; omega)
    have G8 := grown_new G7 gd (by omega)
    clear gd g8 G7 hB7 b7 hbd
    refine wp_seq_k fun K17 hK17 => ?_
    refine region_plan2 (fun w' => Below w8.heap.size w8 w') [(0, 0), (1, 0), (2, 0), (3, 0), (4, 0), (5, 0), (6, 2)] rfl (by kernel_rfl) (by kernel_rfl) rfl (by intro c a d v w h; cases d <;> exact h) (fun _ _ h => h) ?_
    intro OPS w8d hpW hbd
    clear hpW
    refine plan_k rfl hk (by decide) (by repeat' (first | exact far_nil _ | refine far_cons (by decide) ?_)) (v := .slice (some ⟨N2, 8, none⟩) (20 - 8) (20 - 8)) (fun o ho w' hS => do_dfrom (k := 8) ho (hk.at (List.mem_cons_self ..)) (by decide)) ?_
    clear hk; intro a hk
    refine plan_k rfl hk (by decide) (by repeat' (first | exact far_nil _ | refine far_cons (by decide) ?_)) (v := .pointer (some ⟨g, 0, none⟩)) (fun o ho w' hS => do_move ho (hk.at (List.mem_cons_of_mem _ (List.mem_cons_of_mem _ (List.mem_cons_of_mem _ (List.mem_cons_self ..)))))) ?_
    clear hk; intro a hk
    refine plan_k rfl hk (by decide) (by repeat' (first | exact far_nil _ | refine far_cons (by decide) ?_)) (v := .pointer (some ⟨g, 0, none⟩)) (fun o ho w' hS => do_nilc ho (hk.at (List.mem_cons_self ..))) ?_
    clear hk; intro a hk
    refine plan_k rfl hk (by decide) (by repeat' (first | exact far_nil _ | refine far_cons (by decide) ?_)) (v := .pointer (some ⟨g, 0, none⟩)) (fun o ho w' hS => do_fld48_0 ho (hk.at (List.mem_cons_self ..))) ?_
    clear hk; intro a hk
    refine plan_k rfl hk (by decide) (by repeat' (first | exact far_nil _ | refine far_cons (by decide) ?_)) (v := .pointer (some ⟨g, 2, none⟩)) (fun o ho w' hS => do_hat' (j := 2) ho (hk.at (List.mem_cons_self ..)) (by decide)) ?_
    clear hk; intro a hk
    refine plan_k rfl hk (by decide) (by repeat' (first | exact far_nil _ | refine far_cons (by decide) ?_)) (v := .int .u32 (sums (m ++ padB n)).c) (fun o ho w' hS => do_ldB ho Try.underlying43 rfl (hk.at (List.mem_cons_self ..)) (hB8.kept hS) rfl) ?_
    clear hk; intro a hk
    refine plan_kl2 rfl fun o ho hd hgd => ?_
    refine wp_call hgd (do_call2 ho (hk.at (List.mem_cons_of_mem _ (List.mem_cons_of_mem _ (List.mem_cons_of_mem _ (List.mem_cons_of_mem _ (List.mem_cons_of_mem _ (List.mem_cons_self ..))))))) (hk.at (List.mem_cons_self ..)) (put32_enter _ _)) (put32_ok N2 8 _ _ _ _ _ _ (b8.kept hbd) (by decide) (Nat.le_of_ble_eq_true rfl)) ?_
    rintro e w9 ⟨rfl, b9, g9⟩
    refine ⟨_, rfl, ?_⟩
    rw [hd]
    refine keep_k (v := .tuple #[]) hk (by decide) (by repeat' (first | exact far_nil _ | refine far_cons (by decide) ?_)) ?_
    clear hk; intro a hk
    show wpPlan _ OPS _ (fun w' => Below w8.heap.size w8 w') (planOps2 _ _) _ _
    refine plan_k0 ?_
    refine hK17 _ _ ?_
    clear hK17
    have hk2 : Keeps 77 ([(7, .pointer (some ⟨N2, 0, none⟩)), (2, .pointer (some ⟨N0, 0, none⟩)), (0, .pointer (some ⟨g, 0, none⟩))]) a := by
      refine ⟨hk.1, hk.2.1, fun x hx => hk.2.2 x ?_⟩
      rcases List.mem_cons.1 hx with rfl | hx
      · exact List.mem_cons_of_mem _ (List.mem_cons_of_mem _ (List.mem_cons_of_mem _ (List.mem_cons_of_mem _ (List.mem_cons_of_mem _ (List.mem_cons_of_mem _ (List.mem_cons_of_mem _ (List.mem_cons_self ..)))))))
      rcases List.mem_cons.1 hx with rfl | hx
      · exact List.mem_cons_of_mem _ (List.mem_cons_of_mem _ (List.mem_cons_of_mem _ (List.mem_cons_of_mem _ (List.mem_cons_of_mem _ (List.mem_cons_of_mem _ (List.mem_cons_of_mem _ (List.mem_cons_of_mem _ (List.mem_cons_self ..))))))))
      rcases List.mem_cons.1 hx with rfl | hx
      · exact List.mem_cons_of_mem _ (List.mem_cons_of_mem _ (List.mem_cons_of_mem _ (List.mem_cons_of_mem _ (List.mem_cons_of_mem _ (List.mem_cons_of_mem _ (List.mem_cons_of_mem _ (List.mem_cons_of_mem _ (List.mem_cons_of_mem _ (List.mem_cons_self ..)))))))))
      cases hx
    clear hk
    have hk := hk2
    clear hk2
    have gd := grown_trans (grown_below hbd (some N2)) g9
    have b1 := b1.grown gd (by simp; omega)
    have hB9 := hB8.grown gd (by simp; omega)
    have G9 := grown_new G8 gd (by omega)
    clear gd g9 G8 hB8 b8 hbd
    refine wp_seq_k fun K18 hK18 => ?_
    refine region_plan2 (fun w' => Below w9.heap.size w9 w') [(0, 0), (1, 0), (2, 0), (3, 0), (4, 0), (5, 0), (6, 2)] rfl (by kernel_rfl) (by kernel_rfl) rfl (by intro c a d v w h; cases d <;> exact h) (fun _ _ h => h) ?_
    intro OPS w9d hpW hbd
    clear hpW
    refine plan_k rfl hk (by decide) (by repeat' (first | exact far_nil _ | refine far_cons (by decide) ?_)) (v := .slice (some ⟨N2, 12, none⟩) (20 - 12) (20 - 12)) (fun o ho w' hS => do_dfrom (k := 12) ho (hk.at (List.mem_cons_self ..)) (by decide)) ?_
    clear hk; intro a hk
    refine plan_k rfl hk (by decide) (by repeat' (first | exact far_nil _ | refine far_cons (by decide) ?_)) (v := .pointer (some ⟨g, 0, none⟩)) (fun o ho w' hS => do_move ho (hk.at (List.mem_cons_of_mem _ (List.mem_cons_of_mem _ (List.mem_cons_of_mem _ (List.mem_cons_self ..)))))) ?_
    clear hk; intro a hk
    refine plan_k rfl hk (by decide) (by repeat' (first | exact far_nil _ | refine far_cons (by decide) ?_)) (v := .pointer (some ⟨g, 0, none⟩)) (fun o ho w' hS => do_nilc ho (hk.at (List.mem_cons_self ..))) ?_
    clear hk; intro a hk
    refine plan_k rfl hk (by decide) (by repeat' (first | exact far_nil _ | refine far_cons (by decide) ?_)) (v := .pointer (some ⟨g, 0, none⟩)) (fun o ho w' hS => do_fld48_0 ho (hk.at (List.mem_cons_self ..))) ?_
    clear hk; intro a hk
    refine plan_k rfl hk (by decide) (by repeat' (first | exact far_nil _ | refine far_cons (by decide) ?_)) (v := .pointer (some ⟨g, 3, none⟩)) (fun o ho w' hS => do_hat' (j := 3) ho (hk.at (List.mem_cons_self ..)) (by decide)) ?_
    clear hk; intro a hk
    refine plan_k rfl hk (by decide) (by repeat' (first | exact far_nil _ | refine far_cons (by decide) ?_)) (v := .int .u32 (sums (m ++ padB n)).d) (fun o ho w' hS => do_ldB ho Try.underlying43 rfl (hk.at (List.mem_cons_self ..)) (hB9.kept hS) rfl) ?_
    clear hk; intro a hk
    refine plan_kl2 rfl fun o ho hd hgd => ?_
    refine wp_call hgd (do_call2 ho (hk.at (List.mem_cons_of_mem _ (List.mem_cons_of_mem _ (List.mem_cons_of_mem _ (List.mem_cons_of_mem _ (List.mem_cons_of_mem _ (List.mem_cons_self ..))))))) (hk.at (List.mem_cons_self ..)) (put32_enter _ _)) (put32_ok N2 12 _ _ _ _ _ _ (b9.kept hbd) (by decide) (Nat.le_of_ble_eq_true rfl)) ?_
    rintro e w10 ⟨rfl, b10, g10⟩
    refine ⟨_, rfl, ?_⟩
    rw [hd]
    refine keep_k (v := .tuple #[]) hk (by decide) (by repeat' (first | exact far_nil _ | refine far_cons (by decide) ?_)) ?_
    clear hk; intro a hk
    show wpPlan _ OPS _ (fun w' => Below w9.heap.size w9 w') (planOps2 _ _) _ _
    refine plan_k0 ?_
    refine hK18 _ _ ?_
    clear hK18
    have hk2 : Keeps 77 ([(7, .pointer (some ⟨N2, 0, none⟩)), (2, .pointer (some ⟨N0, 0, none⟩)), (0, .pointer (some ⟨g, 0, none⟩))]) a := by
      refine ⟨hk.1, hk.2.1, fun x hx => hk.2.2 x ?_⟩
      rcases List.mem_cons.1 hx with rfl | hx
      · exact List.mem_cons_of_mem _ (List.mem_cons_of_mem _ (List.mem_cons_of_mem _ (List.mem_cons_of_mem _ (List.mem_cons_of_mem _ (List.mem_cons_of_mem _ (List.mem_cons_of_mem _ (List.mem_cons_self ..)))))))
      rcases List.mem_cons.1 hx with rfl | hx
      · exact List.mem_cons_of_mem _ (List.mem_cons_of_mem _ (List.mem_cons_of_mem _ (List.mem_cons_of_mem _ (List.mem_cons_of_mem _ (List.mem_cons_of_mem _ (List.mem_cons_of_mem _ (List.mem_cons_of_mem _ (List.mem_cons_self ..))))))))
      rcases List.mem_cons.1 hx with rfl | hx
      · exact List.mem_cons_of_mem _ (List.mem_cons_of_mem _ (List.mem_cons_of_mem _ (List.mem_cons_of_mem _ (List.mem_cons_of_mem _ (List.mem_cons_of_mem _ (List.mem_cons_of_mem _ (List.mem_cons_of_mem _ (List.mem_cons_of_mem _ (List.mem_cons_self ..)))))))))
      cases hx
    clear hk
    have hk := hk2
    clear hk2
    have gd := grown_trans (grown_below hbd (some N2)) g10
    have b1 := b1.grown gd (by simp; omega)
    have hB10 := hB9.grown gd (by simp; omega)
    have G10 := grown_new G9 gd (by omega)
    clear gd g10 G9 hB9 b9 hbd
    refine wp_seq_k fun K19 hK19 => ?_
    refine region_plan2 (fun w' => Below w10.heap.size w10 w') [(0, 0), (1, 0), (2, 0), (3, 0), (4, 0), (5, 0), (6, 2)] rfl (by kernel_rfl) (by kernel_rfl) rfl (by intro c a d v w h; cases d <;> exact h) (fun _ _ h => h) ?_
    intro OPS w10d hpW hbd
    clear hpW
    refine plan_k rfl hk (by decide) (by repeat' (first | exact far_nil _ | refine far_cons (by decide) ?_)) (v := .slice (some ⟨N2, 16, none⟩) (20 - 16) (20 - 16)) (fun o ho w' hS => do_dfrom (k := 16) ho (hk.at (List.mem_cons_self ..)) (by decide)) ?_
    clear hk; intro a hk
    refine plan_k rfl hk (by decide) (by repeat' (first | exact far_nil _ | refine far_cons (by decide) ?_)) (v := .pointer (some ⟨g, 0, none⟩)) (fun o ho w' hS => do_move ho (hk.at (List.mem_cons_of_mem _ (List.mem_cons_of_mem _ (List.mem_cons_of_mem _ (List.mem_cons_self ..)))))) ?_
    clear hk; intro a hk
    refine plan_k rfl hk (by decide) (by repeat' (first | exact far_nil _ | refine far_cons (by decide) ?_)) (v := .pointer (some ⟨g, 0, none⟩)) (fun o ho w' hS => do_nilc ho (hk.at (List.mem_cons_self ..))) ?_
    clear hk; intro a hk
    refine plan_k rfl hk (by decide) (by repeat' (first | exact far_nil _ | refine far_cons (by decide) ?_)) (v := .pointer (some ⟨g, 0, none⟩)) (fun o ho w' hS => do_fld48_0 ho (hk.at (List.mem_cons_self ..))) ?_
    clear hk; intro a hk
    refine plan_k rfl hk (by decide) (by repeat' (first | exact far_nil _ | refine far_cons (by decide) ?_)) (v := .pointer (some ⟨g, 4, none⟩)) (fun o ho w' hS => do_hat' (j := 4) ho (hk.at (List.mem_cons_self ..)) (by decide)) ?_
    clear hk; intro a hk
    refine plan_k rfl hk (by decide) (by repeat' (first | exact far_nil _ | refine far_cons (by decide) ?_)) (v := .int .u32 (sums (m ++ padB n)).e) (fun o ho w' hS => do_ldB ho Try.underlying43 rfl (hk.at (List.mem_cons_self ..)) (hB10.kept hS) rfl) ?_
    clear hk; intro a hk
    refine plan_kl2 rfl fun o ho hd hgd => ?_
    refine wp_call hgd (do_call2 ho (hk.at (List.mem_cons_of_mem _ (List.mem_cons_of_mem _ (List.mem_cons_of_mem _ (List.mem_cons_of_mem _ (List.mem_cons_of_mem _ (List.mem_cons_self ..))))))) (hk.at (List.mem_cons_self ..)) (put32_enter _ _)) (put32_ok N2 16 _ _ _ _ _ _ (b10.kept hbd) (by decide) (Nat.le_of_ble_eq_true rfl)) ?_
    rintro e w11 ⟨rfl, b11, g11⟩
    refine ⟨_, rfl, ?_⟩
    rw [hd]
    refine keep_k (v := .tuple #[]) hk (by decide) (by repeat' (first | exact far_nil _ | refine far_cons (by decide) ?_)) ?_
    clear hk; intro a hk
    show wpPlan _ OPS _ (fun w' => Below w10.heap.size w10 w') (planOps2 _ _) _ _
    refine plan_k0 ?_
    refine hK19 _ _ ?_
    clear hK19
    have hk2 : Keeps 77 ([(7, .pointer (some ⟨N2, 0, none⟩)), (2, .pointer (some ⟨N0, 0, none⟩)), (0, .pointer (some ⟨g, 0, none⟩))]) a := by
      refine ⟨hk.1, hk.2.1, fun x hx => hk.2.2 x ?_⟩
      rcases List.mem_cons.1 hx with rfl | hx
      · exact List.mem_cons_of_mem _ (List.mem_cons_of_mem _ (List.mem_cons_of_mem _ (List.mem_cons_of_mem _ (List.mem_cons_of_mem _ (List.mem_cons_of_mem _ (List.mem_cons_of_mem _ (List.mem_cons_self ..)))))))
      rcases List.mem_cons.1 hx with rfl | hx
      · exact List.mem_cons_of_mem _ (List.mem_cons_of_mem _ (List.mem_cons_of_mem _ (List.mem_cons_of_mem _ (List.mem_cons_of_mem _ (List.mem_cons_of_mem _ (List.mem_cons_of_mem _ (List.mem_cons_of_mem _ (List.mem_cons_self ..))))))))
      rcases List.mem_cons.1 hx with rfl | hx
      · exact List.mem_cons_of_mem _ (List.mem_cons_of_mem _ (List.mem_cons_of_mem _ (List.mem_cons_of_mem _ (List.mem_cons_of_mem _ (List.mem_cons_of_mem _ (List.mem_cons_of_mem _ (List.mem_cons_of_mem _ (List.mem_cons_of_mem _ (List.mem_cons_self ..)))))))))
      cases hx
    clear hk
    have hk := hk2
    clear hk2
    have gd := grown_trans (grown_below hbd (some N2)) g11
    have b1 := b1.grown gd (by simp; omega)
    have hB11 := hB10.grown gd (by simp; omega)
    have G11 := grown_new G10 gd (by omega)
    clear gd g11 G10 hB10 b10 hbd
    have hcs : (splice (splice (splice (splice (splice (List.replicate 20 (.int .u8 0)) 0 (bvs (b32 (sums (m ++ padB n)).a))) 4 (bvs (b32 (sums (m ++ padB n)).b))) 8 (bvs (b32 (sums (m ++ padB n)).c))) 12 (bvs (b32 (sums (m ++ padB n)).d))) 16 (bvs (b32 (sums (m ++ padB n)).e))) = bvs (shaB m) := by
      unfold shaB
      rw [hn]
      rfl
    rw [hcs] at b11
    have hl20 : (bvs (shaB m)).length = 20 := by rw [bvs_length, shaB_length]
    refine wp_seq_k fun K20 hK20 => ?_
    refine wp_region_lit ?_
    refine wp_load_blk d20Arr rfl rfl (hk.at (List.mem_cons_self ..)) b11 hl20 ?_
    refine keep_k (v := .agg (bvs (shaB m)).toArray) hk (by decide) (by repeat' (first | exact far_nil _ | refine far_cons (by decide) ?_)) ?_
    clear hk; intro a hk
    refine wp_store_blk d20Arr ((Below.refl w11.heap.size w11).mono (Nat.zero_le _)) rfl rfl (hk.at (List.mem_cons_of_mem _ (List.mem_cons_of_mem _ (List.mem_cons_self ..)))) (hk.at (List.mem_cons_self ..)) b1 (Nat.zero_le _) rfl hl20 (bvs_one _) fun w12 b12 g12 _ _ => ?_
    refine keep_0 hk ?_
    clear hk; intro a hk
    refine hK20 _ _ (wp_ret ?_)
    refine ret_cell d20Arr rfl hk.2.1 (hk.at (t := 2) (v := .pointer (some ⟨N0, 0, none⟩)) (by simp)) b12 hl20 ?_
    exact ⟨rfl, grown_new G11 g12 (by omega)⟩
  clear hK5
  refine wp_seq_k fun K6 hK6 => ?_
  refine wp_region_lit ?_
  refine list_k rfl rfl hk (by decide) (by repeat' (first | exact far_nil _ | refine far_cons (by decide) ?_)) (v := .int .u64 ((n : Nat) : Int)) (do_move rfl (hk.at (List.mem_cons_of_mem _ (List.mem_cons_of_mem _ (List.mem_cons_self ..))))) ?_
  clear hk; intro a hk
  refine list_k rfl rfl hk (by decide) (by repeat' (first | exact far_nil _ | refine far_cons (by decide) ?_)) (v := .int .u64 ((n % 64 : Nat) : Int)) (do_rem64 rfl (hk.at (List.mem_cons_self ..)) (by omega)) ?_
  clear hk; intro a hk
  refine list_k rfl rfl hk (by decide) (by repeat' (first | exact far_nil _ | refine far_cons (by decide) ?_)) (v := .bool (decide (n % 64 < 56))) ((do_lss (n := 56) rfl Try.underlying46 (hk.at (List.mem_cons_self ..)) rfl)) ?_
  clear hk; intro a hk
  refine hK6 _ _ (wp_cond (hk.at (List.mem_cons_self ..)) ?_)
  clear hK6
  have hk2 : Keeps 77 ([(5, .int .u64 0), (4, .pointer (some ⟨N1, 0, none⟩)), (3, .int .u64 ((n : Nat) : Int)), (2, .pointer (some ⟨N0, 0, none⟩)), (0, .pointer (some ⟨g, 0, none⟩))]) a := by
    refine ⟨hk.1, hk.2.1, fun x hx => hk.2.2 x ?_⟩
    rcases List.mem_cons.1 hx with rfl | hx
    · exact List.mem_cons_of_mem _ (List.mem_cons_of_mem _ (List.mem_cons_of_mem _ (List.mem_cons_self ..)))
    rcases List.mem_cons.1 hx with rfl | hx
    · exact List.mem_cons_of_mem _ (List.mem_cons_of_mem _ (List.mem_cons_of_mem _ (List.mem_cons_of_mem _ (List.mem_cons_self ..))))
    rcases List.mem_cons.1 hx with rfl | hx
    · exact List.mem_cons_of_mem _ (List.mem_cons_of_mem _ (List.mem_cons_of_mem _ (List.mem_cons_of_mem _ (List.mem_cons_of_mem _ (List.mem_cons_self ..)))))
    rcases List.mem_cons.1 hx with rfl | hx
    · exact List.mem_cons_of_mem _ (List.mem_cons_of_mem _ (List.mem_cons_of_mem _ (List.mem_cons_of_mem _ (List.mem_cons_of_mem _ (List.mem_cons_of_mem _ (List.mem_cons_self ..))))))
    rcases List.mem_cons.1 hx with rfl | hx
    · exact List.mem_cons_of_mem _ (List.mem_cons_of_mem _ (List.mem_cons_of_mem _ (List.mem_cons_of_mem _ (List.mem_cons_of_mem _ (List.mem_cons_of_mem _ (List.mem_cons_of_mem _ (List.mem_cons_self ..)))))))
    cases hx
  clear hk
  have hk := hk2
  clear hk2
  by_cases h56 : n % 64 < 56
  case pos =>
    rw [decide_eq_true h56]
    refine wp_region_lit ?_
    refine list_k rfl rfl hk (by decide) (by repeat' (first | exact far_nil _ | refine far_cons (by decide) ?_)) (v := .int .u64 ((n : Nat) : Int)) (do_move rfl (hk.at (List.mem_cons_of_mem _ (List.mem_cons_of_mem _ (List.mem_cons_self ..))))) ?_
    clear hk; intro a hk
    refine list_k rfl rfl hk (by decide) (by repeat' (first | exact far_nil _ | refine far_cons (by decide) ?_)) (v := .int .u64 ((n % 64 : Nat) : Int)) (do_rem64 rfl (hk.at (List.mem_cons_self ..)) (by omega)) ?_
    clear hk; intro a hk
    refine list_k rfl rfl hk (by decide) (by repeat' (first | exact far_nil _ | refine far_cons (by decide) ?_)) (v := .int .u64 ((56 - n % 64 : Nat) : Int)) ((do_subN (m := 56) rfl Try.underlying46 rfl (hk.at (List.mem_cons_self ..)) (by rw [IntKind.wrap_u64]; omega))) ?_
    clear hk; intro a hk
    have hk2 : Keeps 77 ([(18, .int .u64 ((56 - n % 64 : Nat) : Int)), (17, .int .u64 ((n % 64 : Nat) : Int)), (16, .int .u64 ((n : Nat) : Int)), (4, .pointer (some ⟨N1, 0, none⟩)), (3, .int .u64 ((n : Nat) : Int)), (2, .pointer (some ⟨N0, 0, none⟩)), (0, .pointer (some ⟨g, 0, none⟩))]) a := by
      refine ⟨hk.1, hk.2.1, fun x hx => hk.2.2 x ?_⟩
      rcases List.mem_cons.1 hx with rfl | hx
      · exact List.mem_cons_self ..
      rcases List.mem_cons.1 hx with rfl | hx
      · exact List.mem_cons_of_mem _ (List.mem_cons_self ..)
      rcases List.mem_cons.1 hx with rfl | hx
      · exact List.mem_cons_of_mem _ (List.mem_cons_of_mem _ (List.mem_cons_self ..))
      rcases List.mem_cons.1 hx with rfl | hx
      · exact List.mem_cons_of_mem _ (List.mem_cons_of_mem _ (List.mem_cons_of_mem _ (List.mem_cons_of_mem _ (List.mem_cons_self ..))))
      rcases List.mem_cons.1 hx with rfl | hx
      · exact List.mem_cons_of_mem _ (List.mem_cons_of_mem _ (List.mem_cons_of_mem _ (List.mem_cons_of_mem _ (List.mem_cons_of_mem _ (List.mem_cons_self ..)))))
      rcases List.mem_cons.1 hx with rfl | hx
      · exact List.mem_cons_of_mem _ (List.mem_cons_of_mem _ (List.mem_cons_of_mem _ (List.mem_cons_of_mem _ (List.mem_cons_of_mem _ (List.mem_cons_of_mem _ (List.mem_cons_self ..))))))
      rcases List.mem_cons.1 hx with rfl | hx
      · exact List.mem_cons_of_mem _ (List.mem_cons_of_mem _ (List.mem_cons_of_mem _ (List.mem_cons_of_mem _ (List.mem_cons_of_mem _ (List.mem_cons_of_mem _ (List.mem_cons_of_mem _ (List.mem_cons_self ..)))))))
      cases hx
    clear hk
    have hk := hk2
    clear hk2
    refine list_k rfl rfl hk (by decide) (by repeat' (first | exact far_nil _ | refine far_cons (by decide) ?_)) (v := .int .u64 ((56 - n % 64 : Nat) : Int)) (do_assign rfl (hk.at (List.mem_cons_self ..))) ?_
    clear hk; intro a hk
    have hT : padT n = 56 - n % 64 := by unfold padT; rw [if_pos h56]
    rw [← hT] at hk
    refine HK _ (hk.sub fun x hx => ?_)
    rcases List.mem_cons.1 hx with rfl | hx
    · exact List.mem_cons_self ..
    rcases List.mem_cons.1 hx with rfl | hx
    · exact List.mem_cons_of_mem _ (List.mem_cons_of_mem _ (List.mem_cons_of_mem _ (List.mem_cons_of_mem _ (List.mem_cons_self ..))))
    rcases List.mem_cons.1 hx with rfl | hx
    · exact List.mem_cons_of_mem _ (List.mem_cons_of_mem _ (List.mem_cons_of_mem _ (List.mem_cons_of_mem _ (List.mem_cons_of_mem _ (List.mem_cons_self ..)))))
    rcases List.mem_cons.1 hx with rfl | hx
    · exact List.mem_cons_of_mem _ (List.mem_cons_of_mem _ (List.mem_cons_of_mem _ (List.mem_cons_of_mem _ (List.mem_cons_of_mem _ (List.mem_cons_of_mem _ (List.mem_cons_self ..))))))
    rcases List.mem_cons.1 hx with rfl | hx
    · exact List.mem_cons_of_mem _ (List.mem_cons_of_mem _ (List.mem_cons_of_mem _ (List.mem_cons_of_mem _ (List.mem_cons_of_mem _ (List.mem_cons_of_mem _ (List.mem_cons_of_mem _ (List.mem_cons_self ..)))))))
    cases hx
  case neg =>
    rw [decide_eq_false h56]
    refine wp_region_lit ?_
    refine list_k rfl rfl hk (by decide) (by repeat' (first | exact far_nil _ | refine far_cons (by decide) ?_)) (v := .int .u64 ((n : Nat) : Int)) (do_move rfl (hk.at (List.mem_cons_of_mem _ (List.mem_cons_of_mem _ (List.mem_cons_self ..))))) ?_
    clear hk; intro a hk
    refine list_k rfl rfl hk (by decide) (by repeat' (first | exact far_nil _ | refine far_cons (by decide) ?_)) (v := .int .u64 ((n % 64 : Nat) : Int)) (do_rem64 rfl (hk.at (List.mem_cons_self ..)) (by omega)) ?_
    clear hk; intro a hk
    refine list_k rfl rfl hk (by decide) (by repeat' (first | exact far_nil _ | refine far_cons (by decide) ?_)) (v := .int .u64 ((120 - n % 64 : Nat) : Int)) ((do_subN (m := 120) rfl Try.underlying46 rfl (hk.at (List.mem_cons_self ..)) (by rw [IntKind.wrap_u64]; omega))) ?_
    clear hk; intro a hk
    have hk2 : Keeps 77 ([(21, .int .u64 ((120 - n % 64 : Nat) : Int)), (20, .int .u64 ((n % 64 : Nat) : Int)), (19, .int .u64 ((n : Nat) : Int)), (4, .pointer (some ⟨N1, 0, none⟩)), (3, .int .u64 ((n : Nat) : Int)), (2, .pointer (some ⟨N0, 0, none⟩)), (0, .pointer (some ⟨g, 0, none⟩))]) a := by
      refine ⟨hk.1, hk.2.1, fun x hx => hk.2.2 x ?_⟩
      rcases List.mem_cons.1 hx with rfl | hx
      · exact List.mem_cons_self ..
      rcases List.mem_cons.1 hx with rfl | hx
      · exact List.mem_cons_of_mem _ (List.mem_cons_self ..)
      rcases List.mem_cons.1 hx with rfl | hx
      · exact List.mem_cons_of_mem _ (List.mem_cons_of_mem _ (List.mem_cons_self ..))
      rcases List.mem_cons.1 hx with rfl | hx
      · exact List.mem_cons_of_mem _ (List.mem_cons_of_mem _ (List.mem_cons_of_mem _ (List.mem_cons_of_mem _ (List.mem_cons_self ..))))
      rcases List.mem_cons.1 hx with rfl | hx
      · exact List.mem_cons_of_mem _ (List.mem_cons_of_mem _ (List.mem_cons_of_mem _ (List.mem_cons_of_mem _ (List.mem_cons_of_mem _ (List.mem_cons_self ..)))))
      rcases List.mem_cons.1 hx with rfl | hx
      · exact List.mem_cons_of_mem _ (List.mem_cons_of_mem _ (List.mem_cons_of_mem _ (List.mem_cons_of_mem _ (List.mem_cons_of_mem _ (List.mem_cons_of_mem _ (List.mem_cons_self ..))))))
      rcases List.mem_cons.1 hx with rfl | hx
      · exact List.mem_cons_of_mem _ (List.mem_cons_of_mem _ (List.mem_cons_of_mem _ (List.mem_cons_of_mem _ (List.mem_cons_of_mem _ (List.mem_cons_of_mem _ (List.mem_cons_of_mem _ (List.mem_cons_self ..)))))))
      cases hx
    clear hk
    have hk := hk2
    clear hk2
    refine list_k rfl rfl hk (by decide) (by repeat' (first | exact far_nil _ | refine far_cons (by decide) ?_)) (v := .int .u64 ((120 - n % 64 : Nat) : Int)) (do_assign rfl (hk.at (List.mem_cons_self ..))) ?_
    clear hk; intro a hk
    have hT : padT n = 120 - n % 64 := by unfold padT; rw [if_neg h56]
    rw [← hT] at hk
    refine HK _ (hk.sub fun x hx => ?_)
    rcases List.mem_cons.1 hx with rfl | hx
    · exact List.mem_cons_self ..
    rcases List.mem_cons.1 hx with rfl | hx
    · exact List.mem_cons_of_mem _ (List.mem_cons_of_mem _ (List.mem_cons_of_mem _ (List.mem_cons_of_mem _ (List.mem_cons_self ..))))
    rcases List.mem_cons.1 hx with rfl | hx
    · exact List.mem_cons_of_mem _ (List.mem_cons_of_mem _ (List.mem_cons_of_mem _ (List.mem_cons_of_mem _ (List.mem_cons_of_mem _ (List.mem_cons_self ..)))))
    rcases List.mem_cons.1 hx with rfl | hx
    · exact List.mem_cons_of_mem _ (List.mem_cons_of_mem _ (List.mem_cons_of_mem _ (List.mem_cons_of_mem _ (List.mem_cons_of_mem _ (List.mem_cons_of_mem _ (List.mem_cons_self ..))))))
    rcases List.mem_cons.1 hx with rfl | hx
    · exact List.mem_cons_of_mem _ (List.mem_cons_of_mem _ (List.mem_cons_of_mem _ (List.mem_cons_of_mem _ (List.mem_cons_of_mem _ (List.mem_cons_of_mem _ (List.mem_cons_of_mem _ (List.mem_cons_self ..)))))))
    cases hx
end Go.Proofs.Ytjmmkjdlkecmhaa
