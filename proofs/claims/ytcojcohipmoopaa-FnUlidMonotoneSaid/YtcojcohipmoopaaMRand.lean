/- Contract of ULID's random. -/
import Derived.Test.YtcojcohipmoopaaMRnd0
import Derived.Deep.LoopGhost
namespace Go.Proofs.Ytcojcohipmoopaa
open Go.RowKit
set_option linter.unusedVariables false
set_option linter.unusedSimpArgs false
theorem len_enter (u : Value) (w : World) : (callFunc 48 #[u]).run Try.prog w = .ok (.enter 48 #[u]) w := by
  have h := Try.func48
  go_simp
theorem rf_enter (u v : Value) (w : World) : (callFunc 13 #[u, v]).run Try.prog w = .ok (.enter 13 #[u, v]) w := by
  have h := Try.func13
  go_simp
theorem le16_enter (u : Value) (w : World) : (callFunc 49 #[u]).run Try.prog w = .ok (.enter 49 #[u]) w := by
  have h := Try.func49
  go_simp
theorem le32_enter (u : Value) (w : World) : (callFunc 50 #[u]).run Try.prog w = .ok (.enter 50 #[u]) w := by
  have h := Try.func50
  go_simp
theorem le64_enter (u : Value) (w : World) : (callFunc 51 #[u]).run Try.prog w = .ok (.enter 51 #[u]) w := by
  have h := Try.func51
  go_simp
/-- How many bytes a try takes. -/
def blOf (inc : Nat) : Nat := (Lib.bitLen inc + 7) / 8
theorem rdTake {w : World} {gm gs ms inc hi lo : Nat} {rnd : List UInt8} {t : TypeId} (h : Blk w gm (mC gs ms inc hi lo rnd) t) (hr : rnd.length = 8) (n : Nat) (hn : n ≤ 8) : Rd w (some ⟨gm, 5, none⟩) (rnd.take n) := by
  refine ⟨by rw [List.length_take]; omega, .inr ⟨gm, 5, rfl, fun i hi => ?_⟩⟩
  rw [List.length_take] at hi
  rw [h.cell, mC_rnd i (by omega), B_take, if_pos (by omega)]
theorem do_fld56_0 {a : Act} {w : World} {o : Oper} {x : Operand} (ho : o.op = .fieldAddr 56 x 0) {g k : Nat} (hx : a.eval x = .pointer (some ⟨g, k, none⟩)) : (execOp a.eval o).run Try.prog w = .ok (.value (.pointer (some ⟨g, k, none⟩))) w := by
  unfold execOp
  simp only [ho, hx]
  go_simp
theorem do_fld56_2 {a : Act} {w : World} {o : Oper} {x : Operand} (ho : o.op = .fieldAddr 56 x 2) {g k : Nat} (hx : a.eval x = .pointer (some ⟨g, k, none⟩)) : (execOp a.eval o).run Try.prog w = .ok (.value (.pointer (some ⟨g, k + 2, none⟩))) w := by
  unfold execOp
  simp only [ho, hx]
  go_simp
theorem do_fld56_4 {a : Act} {w : World} {o : Oper} {x : Operand} (ho : o.op = .fieldAddr 56 x 4) {g k : Nat} (hx : a.eval x = .pointer (some ⟨g, k, none⟩)) : (execOp a.eval o).run Try.prog w = .ok (.value (.pointer (some ⟨g, k + 5, none⟩))) w := by
  unfold execOp
  simp only [ho, hx]
  go_simp
theorem do_fld56_5 {a : Act} {w : World} {o : Oper} {x : Operand} (ho : o.op = .fieldAddr 56 x 5) {g k : Nat} (hx : a.eval x = .pointer (some ⟨g, k, none⟩)) : (execOp a.eval o).run Try.prog w = .ok (.value (.pointer (some ⟨g, k + 13, none⟩))) w := by
  unfold execOp
  simp only [ho, hx]
  go_simp
set_option maxRecDepth 100000 in
theorem random_ok (gm gs ms inc hi lo x : Nat) (rnd : List UInt8) (t ts : TypeId) (w : World) (hB : Blk w gm (mC gs ms inc hi lo rnd) t) (hr8 : rnd.length = 8) (hS : Blk w gs [.int .u32 ((x : Nat) : Int)] ts) (hx : x < 4294967296) (hne : gm ≠ gs) (hi0 : 1 ≤ inc) (hinc : inc ≤ 1099511627776) (hz : zerosFrom (blOf inc) rnd) :
    Calls Try.prog 42 #[.pointer (some ⟨gm, 0, none⟩)] w fun e w' => ∃ (r x' : Nat) (rnd' : List UInt8), e = .returned (.tuple #[.int .u64 ((r : Nat) : Int), .nilIface]) ∧ 1 ≤ r ∧ r ≤ inc ∧ Blk w' gm (mC gs ms inc hi lo rnd') t ∧ rnd'.length = 8 ∧ zerosFrom (blOf inc) rnd' ∧ Blk w' gs [.int .u32 ((x' : Nat) : Int)] ts ∧ x' < 4294967296 ∧ Sets w w' [gm, gs] ∧ w'.heap.size = w.heap.size := by
  go_enter Try.func42, Try.ntmps42
  refine of_keeps 122 [(0, .pointer (some ⟨gm, 0, none⟩))] ⟨by kernel_rfl, rfl, fun x hx => by simp at hx; rcases hx with rfl; rfl⟩ fun a hk => ?_
  refine wp_seq_k fun K0 hK0 => ?_
  refine wp_region_lit ?_
  refine list_k rfl rfl hk (by decide) (by repeat' (first | exact far_nil _ | refine far_cons (by decide) ?_)) (v := .int .u64 0) (do_assign rfl rfl) ?_
  clear hk; intro a hk
  refine list_k rfl rfl hk (by decide) (by repeat' (first | exact far_nil _ | refine far_cons (by decide) ?_)) (v := .nilIface) (do_assign rfl rfl) ?_
  clear hk; intro a hk
  refine hK0 _ _ ?_
  clear hK0
  refine wp_seq_k fun K1 hK1 => ?_
  refine wp_seq_k fun K2 hK2 => ?_
  refine wp_region_lit ?_
  refine list_k rfl rfl hk (by decide) (by repeat' (first | exact far_nil _ | refine far_cons (by decide) ?_)) (v := .pointer (some ⟨gm, 0, none⟩)) (do_move rfl (hk.at (List.mem_cons_of_mem _ (List.mem_cons_of_mem _ (List.mem_cons_self ..))))) ?_
  clear hk; intro a hk
  refine list_k rfl rfl hk (by decide) (by repeat' (first | exact far_nil _ | refine far_cons (by decide) ?_)) (v := .pointer (some ⟨gm, 0, none⟩)) (do_nilc rfl (hk.at (List.mem_cons_self ..))) ?_
  clear hk; intro a hk
  refine list_k rfl rfl hk (by decide) (by repeat' (first | exact far_nil _ | refine far_cons (by decide) ?_)) (v := .pointer (some ⟨gm, 2, none⟩)) (do_fld56_2 rfl (hk.at (List.mem_cons_self ..))) ?_
  clear hk; intro a hk
  refine list_k rfl rfl hk (by decide) (by repeat' (first | exact far_nil _ | refine far_cons (by decide) ?_)) (v := .int .u64 ((inc : Nat) : Int)) (do_ldB rfl Try.underlying24 rfl (hk.at (List.mem_cons_self ..)) hB rfl) ?_
  clear hk; intro a hk
  refine list_k rfl rfl hk (by decide) (by repeat' (first | exact far_nil _ | refine far_cons (by decide) ?_)) (v := .bool (decide (inc ≤ 1))) (do_leq rfl Try.underlying24 (hk.at (List.mem_cons_self ..)) rfl) ?_
  clear hk; intro a hk
  refine hK2 _ _ (wp_cond (hk.at (List.mem_cons_self ..)) ?_)
  clear hK2
  have hk2 : Keeps 122 ([(3, .nilIface), (2, .int .u64 0), (0, .pointer (some ⟨gm, 0, none⟩))]) a := by
    refine ⟨hk.1, hk.2.1, fun x hx => hk.2.2 x ?_⟩
    rcases List.mem_cons.1 hx with rfl | hx
    · exact List.mem_cons_of_mem _ (List.mem_cons_of_mem _ (List.mem_cons_of_mem _ (List.mem_cons_of_mem _ (List.mem_cons_of_mem _ (List.mem_cons_self ..)))))
    rcases List.mem_cons.1 hx with rfl | hx
    · exact List.mem_cons_of_mem _ (List.mem_cons_of_mem _ (List.mem_cons_of_mem _ (List.mem_cons_of_mem _ (List.mem_cons_of_mem _ (List.mem_cons_of_mem _ (List.mem_cons_self ..))))))
    rcases List.mem_cons.1 hx with rfl | hx
    · exact List.mem_cons_of_mem _ (List.mem_cons_of_mem _ (List.mem_cons_of_mem _ (List.mem_cons_of_mem _ (List.mem_cons_of_mem _ (List.mem_cons_of_mem _ (List.mem_cons_of_mem _ (List.mem_cons_self ..)))))))
    cases hx
  clear hk
  have hk := hk2
  clear hk2
  by_cases h1 : inc ≤ 1
  case pos =>
    rw [decide_eq_true h1]
    refine wp_seq_k fun K3 hK3 => ?_
    refine wp_region_lit ?_
    have hk2 : Keeps 122 ([(3, .nilIface), (0, .pointer (some ⟨gm, 0, none⟩))]) a := by
      refine ⟨hk.1, hk.2.1, fun x hx => hk.2.2 x ?_⟩
      rcases List.mem_cons.1 hx with rfl | hx
      · exact List.mem_cons_self ..
      rcases List.mem_cons.1 hx with rfl | hx
      · exact List.mem_cons_of_mem _ (List.mem_cons_of_mem _ (List.mem_cons_self ..))
      cases hx
    clear hk
    have hk := hk2
    clear hk2
    refine list_k rfl rfl hk (by decide) (by repeat' (first | exact far_nil _ | refine far_cons (by decide) ?_)) (v := .int .u64 1) (do_assign rfl rfl) ?_
    clear hk; intro a hk
    have hk2 : Keeps 122 ([(2, .int .u64 1), (0, .pointer (some ⟨gm, 0, none⟩))]) a := by
      refine ⟨hk.1, hk.2.1, fun x hx => hk.2.2 x ?_⟩
      rcases List.mem_cons.1 hx with rfl | hx
      · exact List.mem_cons_self ..
      rcases List.mem_cons.1 hx with rfl | hx
      · exact List.mem_cons_of_mem _ (List.mem_cons_of_mem _ (List.mem_cons_self ..))
      cases hx
    clear hk
    have hk := hk2
    clear hk2
    refine list_k rfl rfl hk (by decide) (by repeat' (first | exact far_nil _ | refine far_cons (by decide) ?_)) (v := .nilIface) (do_assign rfl rfl) ?_
    clear hk; intro a hk
    refine hK3 _ _ (wp_ret ?_)
    simp only [Exit.then]
    refine ret_tmp2 rfl hk.2.1 (hk.at (t := 2) (v := .int .u64 1) (by simp)) (hk.at (t := 3) (v := .nilIface) (by simp)) ?_
    exact ⟨1, x, rnd, rfl, Nat.le_refl _, by omega, hB, hr8, hz, hS, hx, Sets.refl _ _, rfl⟩
  rw [decide_eq_false h1]
  refine wp_skip (hK1 _ _ ?_)
  clear hK1
  have hk2 : Keeps 122 ([(2, .int .u64 0), (0, .pointer (some ⟨gm, 0, none⟩))]) a := by
    refine ⟨hk.1, hk.2.1, fun x hx => hk.2.2 x ?_⟩
    rcases List.mem_cons.1 hx with rfl | hx
    · exact List.mem_cons_of_mem _ (List.mem_cons_self ..)
    rcases List.mem_cons.1 hx with rfl | hx
    · exact List.mem_cons_of_mem _ (List.mem_cons_of_mem _ (List.mem_cons_self ..))
    cases hx
  clear hk
  have hk := hk2
  clear hk2
  refine wp_seq_k fun K1 hK1 => ?_
  refine wp_seq_k fun K2 hK2 => ?_
  refine wp_region_lit ?_
  refine list_k rfl rfl hk (by decide) (by repeat' (first | exact far_nil _ | refine far_cons (by decide) ?_)) (v := .pointer (some ⟨gm, 0, none⟩)) (do_move rfl (hk.at (List.mem_cons_of_mem _ (List.mem_cons_self ..)))) ?_
  clear hk; intro a hk
  refine list_k rfl rfl hk (by decide) (by repeat' (first | exact far_nil _ | refine far_cons (by decide) ?_)) (v := .pointer (some ⟨gm, 0, none⟩)) (do_nilc rfl (hk.at (List.mem_cons_self ..))) ?_
  clear hk; intro a hk
  refine list_k rfl rfl hk (by decide) (by repeat' (first | exact far_nil _ | refine far_cons (by decide) ?_)) (v := .pointer (some ⟨gm, 13, none⟩)) (do_fld56_5 rfl (hk.at (List.mem_cons_self ..))) ?_
  clear hk; intro a hk
  refine list_k rfl rfl hk (by decide) (by repeat' (first | exact far_nil _ | refine far_cons (by decide) ?_)) (v := .nilIface) (do_ldB rfl Try.underlying54 rfl (hk.at (List.mem_cons_self ..)) hB (mC_13 hr8)) ?_
  clear hk; intro a hk
  refine list_k rfl rfl hk (by decide) (by repeat' (first | exact far_nil _ | refine far_cons (by decide) ?_)) (v := .bool false) (do_neqRng rfl (hk.at (List.mem_cons_self ..))) ?_
  clear hk; intro a hk
  refine hK2 _ _ (wp_cond_false (hk.at (List.mem_cons_self ..)) (wp_skip (hK1 _ _ ?_)))
  clear hK2 hK1
  have hk2 : Keeps 122 ([(2, .int .u64 0), (0, .pointer (some ⟨gm, 0, none⟩))]) a := by
    refine ⟨hk.1, hk.2.1, fun x hx => hk.2.2 x ?_⟩
    rcases List.mem_cons.1 hx with rfl | hx
    · exact List.mem_cons_of_mem _ (List.mem_cons_of_mem _ (List.mem_cons_of_mem _ (List.mem_cons_of_mem _ (List.mem_cons_of_mem _ (List.mem_cons_self ..)))))
    rcases List.mem_cons.1 hx with rfl | hx
    · exact List.mem_cons_of_mem _ (List.mem_cons_of_mem _ (List.mem_cons_of_mem _ (List.mem_cons_of_mem _ (List.mem_cons_of_mem _ (List.mem_cons_of_mem _ (List.mem_cons_self ..))))))
    cases hx
  clear hk
  have hk := hk2
  clear hk2
  refine wp_seq_k fun K1 hK1 => ?_
  refine wp_region_lit ?_
  refine list_k rfl rfl hk (by decide) (by repeat' (first | exact far_nil _ | refine far_cons (by decide) ?_)) (v := .pointer (some ⟨gm, 0, none⟩)) (do_move rfl (hk.at (List.mem_cons_of_mem _ (List.mem_cons_self ..)))) ?_
  clear hk; intro a hk
  refine list_k rfl rfl hk (by decide) (by repeat' (first | exact far_nil _ | refine far_cons (by decide) ?_)) (v := .pointer (some ⟨gm, 0, none⟩)) (do_nilc rfl (hk.at (List.mem_cons_self ..))) ?_
  clear hk; intro a hk
  refine list_k rfl rfl hk (by decide) (by repeat' (first | exact far_nil _ | refine far_cons (by decide) ?_)) (v := .pointer (some ⟨gm, 2, none⟩)) (do_fld56_2 rfl (hk.at (List.mem_cons_self ..))) ?_
  clear hk; intro a hk
  refine list_k rfl rfl hk (by decide) (by repeat' (first | exact far_nil _ | refine far_cons (by decide) ?_)) (v := .int .u64 ((inc : Nat) : Int)) (do_ldB rfl Try.underlying24 rfl (hk.at (List.mem_cons_self ..)) hB rfl) ?_
  clear hk; intro a hk
  refine wp_call rfl (do_call1 rfl (hk.at (List.mem_cons_self ..)) (len_enter _)) (len64_nat inc _ (by omega)) ?_
  rintro e w2 ⟨rfl, hw2⟩
  obtain rfl : w = w2 := hw2.symm
  refine ⟨_, rfl, ?_⟩
  refine keep_k (v := .int .i64 ((Lib.bitLen inc : Nat) : Int)) hk (by decide) (by repeat' (first | exact far_nil _ | refine far_cons (by decide) ?_)) ?_
  clear hk; intro a hk
  refine list_k rfl rfl hk (by decide) (by repeat' (first | exact far_nil _ | refine far_cons (by decide) ?_)) (v := .int .i64 ((Lib.bitLen inc : Nat) : Int)) (do_assign rfl (hk.at (List.mem_cons_self ..))) ?_
  clear hk; intro a hk
  refine hK1 _ _ ?_
  clear hK1
  have hk2 : Keeps 122 ([(4, .int .i64 ((Lib.bitLen inc : Nat) : Int)), (2, .int .u64 0), (0, .pointer (some ⟨gm, 0, none⟩))]) a := by
    refine ⟨hk.1, hk.2.1, fun x hx => hk.2.2 x ?_⟩
    rcases List.mem_cons.1 hx with rfl | hx
    · exact List.mem_cons_self ..
    rcases List.mem_cons.1 hx with rfl | hx
    · exact List.mem_cons_of_mem _ (List.mem_cons_of_mem _ (List.mem_cons_of_mem _ (List.mem_cons_of_mem _ (List.mem_cons_of_mem _ (List.mem_cons_of_mem _ (List.mem_cons_self ..))))))
    rcases List.mem_cons.1 hx with rfl | hx
    · exact List.mem_cons_of_mem _ (List.mem_cons_of_mem _ (List.mem_cons_of_mem _ (List.mem_cons_of_mem _ (List.mem_cons_of_mem _ (List.mem_cons_of_mem _ (List.mem_cons_of_mem _ (List.mem_cons_self ..)))))))
    cases hx
  clear hk
  have hk := hk2
  clear hk2
  have hbnd := Go.Lib.bitLenAux_bounds 64 inc (by simp; omega) (by omega)
  obtain ⟨q, hq⟩ : ∃ q, q = Lib.bitLen inc := ⟨_, rfl⟩
  have hq1 : 1 ≤ q ∧ 2 ^ (q - 1) ≤ inc := by rw [hq]; exact ⟨hbnd.1, hbnd.2.1⟩
  have hq41 : q ≤ 41 := by
    refine Nat.le_of_not_lt fun hlt => ?_
    have : 2 ^ 41 ≤ 2 ^ (q - 1) := Nat.pow_le_pow_right (by decide) (by omega)
    omega
  clear hbnd
  rw [← hq] at hk
  unfold blOf at hz ⊢
  rw [← hq] at hz ⊢
  clear hq
  refine wp_seq_k fun K1 hK1 => ?_
  refine wp_region_lit ?_
  refine list_k rfl rfl hk (by decide) (by repeat' (first | exact far_nil _ | refine far_cons (by decide) ?_)) (v := .int .i64 ((q : Nat) : Int)) (do_move rfl (hk.at (List.mem_cons_self ..))) ?_
  clear hk; intro a hk
  refine list_k rfl rfl hk (by decide) (by repeat' (first | exact far_nil _ | refine far_cons (by decide) ?_)) (v := .int .i64 ((q + 7 : Nat) : Int)) ((do_addN (n := 7) rfl Try.underlying3 (hk.at (List.mem_cons_self ..)) rfl (wrapI (by omega)))) ?_
  clear hk; intro a hk
  refine list_k rfl rfl hk (by decide) (by repeat' (first | exact far_nil _ | refine far_cons (by decide) ?_)) (v := .int .u64 ((q + 7 : Nat) : Int)) (do_cvtN rfl Try.underlying3 Try.underlying71 (hk.at (List.mem_cons_self ..)) (wrapU (by omega))) ?_
  clear hk; intro a hk
  refine list_k rfl rfl hk (by decide) (by repeat' (first | exact far_nil _ | refine far_cons (by decide) ?_)) (v := .int .u64 (((q + 7) / 8 : Nat) : Int)) (do_quo8 rfl Try.underlying71 (hk.at (List.mem_cons_self ..)) (by omega)) ?_
  clear hk; intro a hk
  refine list_k rfl rfl hk (by decide) (by repeat' (first | exact far_nil _ | refine far_cons (by decide) ?_)) (v := .int .u64 (((q + 7) / 8 : Nat) : Int)) (do_assign rfl (hk.at (List.mem_cons_self ..))) ?_
  clear hk; intro a hk
  refine hK1 _ _ ?_
  clear hK1
  have hk2 : Keeps 122 ([(5, .int .u64 (((q + 7) / 8 : Nat) : Int)), (4, .int .i64 ((q : Nat) : Int)), (2, .int .u64 0), (0, .pointer (some ⟨gm, 0, none⟩))]) a := by
    refine ⟨hk.1, hk.2.1, fun x hx => hk.2.2 x ?_⟩
    rcases List.mem_cons.1 hx with rfl | hx
    · exact List.mem_cons_self ..
    rcases List.mem_cons.1 hx with rfl | hx
    · exact List.mem_cons_of_mem _ (List.mem_cons_of_mem _ (List.mem_cons_of_mem _ (List.mem_cons_of_mem _ (List.mem_cons_of_mem _ (List.mem_cons_self ..)))))
    rcases List.mem_cons.1 hx with rfl | hx
    · exact List.mem_cons_of_mem _ (List.mem_cons_of_mem _ (List.mem_cons_of_mem _ (List.mem_cons_of_mem _ (List.mem_cons_of_mem _ (List.mem_cons_of_mem _ (List.mem_cons_self ..))))))
    rcases List.mem_cons.1 hx with rfl | hx
    · exact List.mem_cons_of_mem _ (List.mem_cons_of_mem _ (List.mem_cons_of_mem _ (List.mem_cons_of_mem _ (List.mem_cons_of_mem _ (List.mem_cons_of_mem _ (List.mem_cons_of_mem _ (List.mem_cons_self ..)))))))
    cases hx
  clear hk
  have hk := hk2
  clear hk2
  obtain ⟨bl, hbl⟩ : ∃ bl, bl = (q + 7) / 8 := ⟨_, rfl⟩
  rw [← hbl] at hk hz ⊢
  have hbl1 : 1 ≤ bl ∧ bl ≤ 6 := by omega
  refine wp_seq_k fun K1 hK1 => ?_
  refine wp_region_lit ?_
  refine list_k rfl rfl hk (by decide) (by repeat' (first | exact far_nil _ | refine far_cons (by decide) ?_)) (v := .int .i64 ((q : Nat) : Int)) (do_move rfl (hk.at (List.mem_cons_of_mem _ (List.mem_cons_self ..)))) ?_
  clear hk; intro a hk
  refine list_k rfl rfl hk (by decide) (by repeat' (first | exact far_nil _ | refine far_cons (by decide) ?_)) (v := .int .i64 ((q % 8 : Nat) : Int)) (do_rem8 rfl Try.underlying3 (hk.at (List.mem_cons_self ..))) ?_
  clear hk; intro a hk
  refine list_k rfl rfl hk (by decide) (by repeat' (first | exact far_nil _ | refine far_cons (by decide) ?_)) (v := .int .u64 ((q % 8 : Nat) : Int)) (do_cvtN rfl Try.underlying3 Try.underlying71 (hk.at (List.mem_cons_self ..)) (wrapU (by omega))) ?_
  clear hk; intro a hk
  refine list_k rfl rfl hk (by decide) (by repeat' (first | exact far_nil _ | refine far_cons (by decide) ?_)) (v := .int .u64 ((q % 8 : Nat) : Int)) (do_assign rfl (hk.at (List.mem_cons_self ..))) ?_
  clear hk; intro a hk
  refine hK1 _ _ ?_
  clear hK1
  have hk2 : Keeps 122 ([(6, .int .u64 ((q % 8 : Nat) : Int)), (5, .int .u64 ((bl : Nat) : Int)), (2, .int .u64 0), (0, .pointer (some ⟨gm, 0, none⟩))]) a := by
    refine ⟨hk.1, hk.2.1, fun x hx => hk.2.2 x ?_⟩
    rcases List.mem_cons.1 hx with rfl | hx
    · exact List.mem_cons_self ..
    rcases List.mem_cons.1 hx with rfl | hx
    · exact List.mem_cons_of_mem _ (List.mem_cons_of_mem _ (List.mem_cons_of_mem _ (List.mem_cons_of_mem _ (List.mem_cons_self ..))))
    rcases List.mem_cons.1 hx with rfl | hx
    · exact List.mem_cons_of_mem _ (List.mem_cons_of_mem _ (List.mem_cons_of_mem _ (List.mem_cons_of_mem _ (List.mem_cons_of_mem _ (List.mem_cons_of_mem _ (List.mem_cons_self ..))))))
    rcases List.mem_cons.1 hx with rfl | hx
    · exact List.mem_cons_of_mem _ (List.mem_cons_of_mem _ (List.mem_cons_of_mem _ (List.mem_cons_of_mem _ (List.mem_cons_of_mem _ (List.mem_cons_of_mem _ (List.mem_cons_of_mem _ (List.mem_cons_self ..)))))))
    cases hx
  clear hk
  have hk := hk2
  clear hk2
  refine wp_seq_k fun K1 hK1 => ?_
  refine wp_seq_k fun K2 hK2 => ?_
  have HK : ∀ (a : Act) (m : Nat), Keeps 122 [(6, .int .u64 ((m : Nat) : Int)), (5, .int .u64 ((bl : Nat) : Int)), (2, .int .u64 0), (0, .pointer (some ⟨gm, 0, none⟩))] a → 1 ≤ m → m ≤ 8 → K1 a w := by
    intro a m hk hm1 hm8
    refine hK1 _ _ ?_
    clear hK1 hK2
    have hpm : 1 ≤ 2 ^ m ∧ 2 ^ m ≤ 256 := ⟨Nat.pow_pos (by decide), show 2 ^ m ≤ 2 ^ 8 from Nat.pow_le_pow_right (by decide) hm8⟩
    obtain ⟨n0, hn0⟩ := good_comes bl x hbl1.1 hbl1.2 hx
    refine wp_seq_k fun K4 hK4 => ?_
    refine wp_block ?_
    refine wp_loop_ghost (fun n a' w' => ∃ (xs : Nat) (rd : List UInt8) (v : Nat), Keeps 122 [(6, .int .u64 ((m : Nat) : Int)), (5, .int .u64 ((bl : Nat) : Int)), (2, .int .u64 ((v : Nat) : Int)), (0, .pointer (some ⟨gm, 0, none⟩))] a' ∧ Blk w' gm (mC gs ms inc hi lo rd) t ∧ rd.length = 8 ∧ zerosFrom bl rd ∧ Blk w' gs [.int .u32 ((xs : Nat) : Int)] ts ∧ xs < 4294967296 ∧ Sets w w' [gm, gs] ∧ w'.heap.size = w.heap.size ∧ v < 18446744073709551616 ∧ ((0 < v ∧ v < inc) ∨ (1 ≤ n ∧ goodS bl (itL (bl * (n - 1)) xs)))) (n0 + 1) ⟨x, rnd, 0, hk, hB, hr8, hz, hS, hx, Sets.refl _ _, rfl, by decide, .inr ⟨by omega, hn0⟩⟩ ?_
    clear hk hB hr8 hz hS hn0
    rintro n a w1 ⟨xs, rd, v, hk, hB, hr8, hz, hS, hxs, hG, hsz, hv64, hn⟩
    refine wp_seq_k fun K5 hK5 => ?_
    refine wp_seq_k fun K6 hK6 => ?_
    by_cases hin : 0 < v ∧ v < inc
    case pos =>
      refine wp_region_lit ?_
      refine list_k rfl rfl hk (by decide) (by repeat' (first | exact far_nil _ | refine far_cons (by decide) ?_)) (v := .int .u64 ((v : Nat) : Int)) (do_move rfl (hk.at (List.mem_cons_of_mem _ (List.mem_cons_of_mem _ (List.mem_cons_self ..))))) ?_
      clear hk; intro a hk
      refine list_k rfl rfl hk (by decide) (by repeat' (first | exact far_nil _ | refine far_cons (by decide) ?_)) (v := .bool false) ((do_eqlF (n := 0) rfl Try.underlying24 (hk.at (List.mem_cons_self ..)) rfl (by omega))) ?_
      clear hk; intro a hk
      refine list_k rfl rfl hk (by decide) (by repeat' (first | exact far_nil _ | refine far_cons (by decide) ?_)) (v := .bool false) (do_move rfl (hk.at (List.mem_cons_self ..))) ?_
      clear hk; intro a hk
      refine list_on rfl rfl rfl (hk.at (List.mem_cons_self ..)) rfl hk (by decide) (by repeat' (first | exact far_nil _ | refine far_cons (by decide) ?_)) (v := .int .u64 ((v : Nat) : Int)) (do_move rfl (hk.at (List.mem_cons_of_mem _ (List.mem_cons_of_mem _ (List.mem_cons_of_mem _ (List.mem_cons_of_mem _ (List.mem_cons_of_mem _ (List.mem_cons_self ..)))))))) ?_
      clear hk; intro a hk
      refine list_on rfl rfl rfl (hk.at (List.mem_cons_of_mem _ (List.mem_cons_self ..))) rfl hk (by decide) (by repeat' (first | exact far_nil _ | refine far_cons (by decide) ?_)) (v := .pointer (some ⟨gm, 0, none⟩)) (do_move rfl (hk.at (List.mem_cons_of_mem _ (List.mem_cons_of_mem _ (List.mem_cons_of_mem _ (List.mem_cons_of_mem _ (List.mem_cons_of_mem _ (List.mem_cons_of_mem _ (List.mem_cons_of_mem _ (List.mem_cons_self ..)))))))))) ?_
      clear hk; intro a hk
      refine list_on rfl rfl rfl (hk.at (List.mem_cons_of_mem _ (List.mem_cons_of_mem _ (List.mem_cons_self ..)))) rfl hk (by decide) (by repeat' (first | exact far_nil _ | refine far_cons (by decide) ?_)) (v := .pointer (some ⟨gm, 0, none⟩)) (do_nilc rfl (hk.at (List.mem_cons_self ..))) ?_
      clear hk; intro a hk
      refine list_on rfl rfl rfl (hk.at (List.mem_cons_of_mem _ (List.mem_cons_of_mem _ (List.mem_cons_of_mem _ (List.mem_cons_self ..))))) rfl hk (by decide) (by repeat' (first | exact far_nil _ | refine far_cons (by decide) ?_)) (v := .pointer (some ⟨gm, 2, none⟩)) (do_fld56_2 rfl (hk.at (List.mem_cons_self ..))) ?_
      clear hk; intro a hk
      refine list_on rfl rfl rfl (hk.at (List.mem_cons_of_mem _ (List.mem_cons_of_mem _ (List.mem_cons_of_mem _ (List.mem_cons_of_mem _ (List.mem_cons_self ..)))))) rfl hk (by decide) (by repeat' (first | exact far_nil _ | refine far_cons (by decide) ?_)) (v := .int .u64 ((inc : Nat) : Int)) (do_ldB rfl Try.underlying24 rfl (hk.at (List.mem_cons_self ..)) hB rfl) ?_
      clear hk; intro a hk
      refine list_on rfl rfl rfl (hk.at (List.mem_cons_of_mem _ (List.mem_cons_of_mem _ (List.mem_cons_of_mem _ (List.mem_cons_of_mem _ (List.mem_cons_of_mem _ (List.mem_cons_self ..))))))) rfl hk (by decide) (by repeat' (first | exact far_nil _ | refine far_cons (by decide) ?_)) (v := .bool false) (do_geqF rfl Try.underlying24 (hk.at (List.mem_cons_of_mem _ (List.mem_cons_of_mem _ (List.mem_cons_of_mem _ (List.mem_cons_of_mem _ (List.mem_cons_self ..)))))) (hk.at (List.mem_cons_self ..)) (by omega)) ?_
      clear hk; intro a hk
      refine list_k rfl rfl hk (by decide) (by repeat' (first | exact far_nil _ | refine far_cons (by decide) ?_)) (v := .bool false) (do_pickF rfl (hk.at (List.mem_cons_of_mem _ (List.mem_cons_of_mem _ (List.mem_cons_of_mem _ (List.mem_cons_of_mem _ (List.mem_cons_of_mem _ (List.mem_cons_of_mem _ (List.mem_cons_self ..)))))))) (hk.at (List.mem_cons_self ..))) ?_
      clear hk; intro a hk
      refine hK6 _ _ (wp_cond_false (hk.at (List.mem_cons_self ..)) ?_)
      clear hK6 hK5
      refine wp_exit ?_
      simp only [Exit.inBlock, Exit.then, if_true]
      refine hK4 _ _ ?_
      clear hK4
      have hk2 : Keeps 122 ([(2, .int .u64 ((v : Nat) : Int)), (0, .pointer (some ⟨gm, 0, none⟩))]) a := by
        refine ⟨hk.1, hk.2.1, fun x hx => hk.2.2 x ?_⟩
        rcases List.mem_cons.1 hx with rfl | hx
        · exact List.mem_cons_of_mem _ (List.mem_cons_of_mem _ (List.mem_cons_of_mem _ (List.mem_cons_of_mem _ (List.mem_cons_of_mem _ (List.mem_cons_of_mem _ (List.mem_cons_of_mem _ (List.mem_cons_of_mem _ (List.mem_cons_of_mem _ (List.mem_cons_of_mem _ (List.mem_cons_of_mem _ (List.mem_cons_of_mem _ (List.mem_cons_self ..))))))))))))
        rcases List.mem_cons.1 hx with rfl | hx
        · exact List.mem_cons_of_mem _ (List.mem_cons_of_mem _ (List.mem_cons_of_mem _ (List.mem_cons_of_mem _ (List.mem_cons_of_mem _ (List.mem_cons_of_mem _ (List.mem_cons_of_mem _ (List.mem_cons_of_mem _ (List.mem_cons_of_mem _ (List.mem_cons_of_mem _ (List.mem_cons_of_mem _ (List.mem_cons_of_mem _ (List.mem_cons_of_mem _ (List.mem_cons_self ..)))))))))))))
        cases hx
      clear hk
      have hk := hk2
      clear hk2
      refine wp_seq_k fun K7 hK7 => ?_
      refine wp_region_lit ?_
      refine list_k rfl rfl hk (by decide) (by repeat' (first | exact far_nil _ | refine far_cons (by decide) ?_)) (v := .int .u64 ((v : Nat) : Int)) (do_move rfl (hk.at (List.mem_cons_self ..))) ?_
      clear hk; intro a hk
      refine list_k rfl rfl hk (by decide) (by repeat' (first | exact far_nil _ | refine far_cons (by decide) ?_)) (v := .int .u64 ((1 + v : Nat) : Int)) ((do_addN (m := 1) rfl Try.underlying24 rfl (hk.at (List.mem_cons_self ..)) (wrapU (by omega)))) ?_
      clear hk; intro a hk
      have hk2 : Keeps 122 ([(121, .int .u64 ((1 + v : Nat) : Int)), (120, .int .u64 ((v : Nat) : Int)), (0, .pointer (some ⟨gm, 0, none⟩))]) a := by
        refine ⟨hk.1, hk.2.1, fun x hx => hk.2.2 x ?_⟩
        rcases List.mem_cons.1 hx with rfl | hx
        · exact List.mem_cons_self ..
        rcases List.mem_cons.1 hx with rfl | hx
        · exact List.mem_cons_of_mem _ (List.mem_cons_self ..)
        rcases List.mem_cons.1 hx with rfl | hx
        · exact List.mem_cons_of_mem _ (List.mem_cons_of_mem _ (List.mem_cons_of_mem _ (List.mem_cons_self ..)))
        cases hx
      clear hk
      have hk := hk2
      clear hk2
      refine list_k rfl rfl hk (by decide) (by repeat' (first | exact far_nil _ | refine far_cons (by decide) ?_)) (v := .int .u64 ((1 + v : Nat) : Int)) (do_assign rfl (hk.at (List.mem_cons_self ..))) ?_
      clear hk; intro a hk
      refine list_k rfl rfl hk (by decide) (by repeat' (first | exact far_nil _ | refine far_cons (by decide) ?_)) (v := .nilIface) (do_assign rfl rfl) ?_
      clear hk; intro a hk
      refine hK7 _ _ (wp_ret ?_)
      refine ret_tmp2 rfl hk.2.1 (hk.at (t := 2) (v := .int .u64 ((1 + v : Nat) : Int)) (by simp)) (hk.at (t := 3) (v := .nilIface) (by simp)) ?_
      exact ⟨1 + v, xs, rd, rfl, by omega, by omega, hB, hr8, hz, hS, hxs, hG, hsz⟩
    have HK5 : ∀ a : Act, Keeps 122 [(6, .int .u64 ((m : Nat) : Int)), (5, .int .u64 ((bl : Nat) : Int)), (0, .pointer (some ⟨gm, 0, none⟩))] a → K5 a w1 := by
      intro a hk
      refine hK5 _ _ ?_
      clear hK5 hK6 hK4
      obtain ⟨hn1, hgs⟩ : 1 ≤ n ∧ goodS bl (itL (bl * (n - 1)) xs) := by
        rcases hn with h | h
        · exact absurd h hin
        · exact h
      clear hn hin hv64
      refine wp_block ?_
      refine wp_seq_k fun K7 hK7 => ?_
      refine wp_seq_k fun K8 hK8 => ?_
      refine region_plan2 (fun w' => w'.cell? ⟨gm, 0, none⟩ = some (.iface 35 (.pointer (some ⟨gs, 0, none⟩)))) [(0, 0), (1, 0), (2, 0), (3, 0), (4, 0), (5, 0), (6, 0), (7, 0), (8, 0), (9, 1), (10, 0), (11, 0), (12, 0), (13, 0)] rfl (by kernel_rfl) (by kernel_rfl) rfl (by intro c a d v w h; cases d <;> exact h) (fun w3 h3 hb3 => by have := (hB.kept hb3).cell 0; exact this) ?_
      intro OPS w1d hpW hbd
      have hzd : w1d.heap.size = w1.heap.size := by rw [hpW]
      clear hpW
      refine plan_k rfl hk (by decide) (by repeat' (first | exact far_nil _ | refine far_cons (by decide) ?_)) (v := .pointer (some ⟨gm, 0, none⟩)) (fun o ho w' hS => do_move ho (hk.at (List.mem_cons_of_mem _ (List.mem_cons_of_mem _ (List.mem_cons_self ..))))) ?_
      clear hk; intro a hk
      refine plan_k rfl hk (by decide) (by repeat' (first | exact far_nil _ | refine far_cons (by decide) ?_)) (v := .pointer (some ⟨gm, 0, none⟩)) (fun o ho w' hS => do_nilc ho (hk.at (List.mem_cons_self ..))) ?_
      clear hk; intro a hk
      refine plan_k rfl hk (by decide) (by repeat' (first | exact far_nil _ | refine far_cons (by decide) ?_)) (v := .pointer (some ⟨gm, 0, none⟩)) (fun o ho w' hS => do_fld56_0 ho (hk.at (List.mem_cons_self ..))) ?_
      clear hk; intro a hk
      refine plan_k rfl hk (by decide) (by repeat' (first | exact far_nil _ | refine far_cons (by decide) ?_)) (v := .iface 35 (.pointer (some ⟨gs, 0, none⟩))) (fun o ho w' hS => do_ldC ho Try.underlying48 rfl (hk.at (List.mem_cons_self ..)) hS) ?_
      clear hk; intro a hk
      refine plan_k rfl hk (by decide) (by repeat' (first | exact far_nil _ | refine far_cons (by decide) ?_)) (v := .pointer (some ⟨gm, 0, none⟩)) (fun o ho w' hS => do_move ho (hk.at (List.mem_cons_of_mem _ (List.mem_cons_of_mem _ (List.mem_cons_of_mem _ (List.mem_cons_of_mem _ (List.mem_cons_of_mem _ (List.mem_cons_of_mem _ (List.mem_cons_self ..))))))))) ?_
      clear hk; intro a hk
      refine plan_k rfl hk (by decide) (by repeat' (first | exact far_nil _ | refine far_cons (by decide) ?_)) (v := .pointer (some ⟨gm, 0, none⟩)) (fun o ho w' hS => do_nilc ho (hk.at (List.mem_cons_self ..))) ?_
      clear hk; intro a hk
      refine plan_k rfl hk (by decide) (by repeat' (first | exact far_nil _ | refine far_cons (by decide) ?_)) (v := .pointer (some ⟨gm, 5, none⟩)) (fun o ho w' hS => do_fld56_4 ho (hk.at (List.mem_cons_self ..))) ?_
      clear hk; intro a hk
      refine plan_k rfl hk (by decide) (by repeat' (first | exact far_nil _ | refine far_cons (by decide) ?_)) (v := .int .u64 ((bl : Nat) : Int)) (fun o ho w' hS => do_move ho (hk.at (List.mem_cons_of_mem _ (List.mem_cons_of_mem _ (List.mem_cons_of_mem _ (List.mem_cons_of_mem _ (List.mem_cons_of_mem _ (List.mem_cons_of_mem _ (List.mem_cons_of_mem _ (List.mem_cons_of_mem _ (List.mem_cons_self ..))))))))))) ?_
      clear hk; intro a hk
      refine plan_k rfl hk (by decide) (by repeat' (first | exact far_nil _ | refine far_cons (by decide) ?_)) (v := .slice (some ⟨gm, 5, none⟩) bl 8) (fun o ho w' hS => do_arrH ho Try.underlying52 (by kernel_rfl) (hk.at (List.mem_cons_of_mem _ (List.mem_cons_self ..))) (hk.at (List.mem_cons_self ..)) (by omega)) ?_
      clear hk; intro a hk
      refine plan_kw2 rfl fun o ho hd hgd => ?_
      refine wp_call hgd (do_call2 ho (hk.at (List.mem_cons_of_mem _ (List.mem_cons_of_mem _ (List.mem_cons_of_mem _ (List.mem_cons_of_mem _ (List.mem_cons_of_mem _ (List.mem_cons_self ..))))))) (hk.at (List.mem_cons_self ..)) (rf_enter _ _)) (readFullS_ok gs xs ts gm 5 bl 8 _ t _ hxs (by rw [itL_zero]; exact hS.kept hbd) (hB.kept hbd) (by rw [mC_length hr8]; omega) hne (by omega) (by omega) (by omega)) ?_
      rintro e w2 ⟨rfl, S2, B2, T2, z2⟩
      rw [mC_splice _ (by rw [sb_length, hr8]; omega), sb_length] at B2
      refine ⟨_, rfl, ?_⟩
      rw [hd]
      refine keep_k (v := .tuple #[.int .i64 bl, .nilIface]) hk (by decide) (by repeat' (first | exact far_nil _ | refine far_cons (by decide) ?_)) ?_
      clear hk; intro a hk
      refine ⟨(by have := B2.cell 0; exact this), ?_⟩
      refine plan_k rfl hk (by decide) (by repeat' (first | exact far_nil _ | refine far_cons (by decide) ?_)) (v := .tuple #[.int .i64 bl, .nilIface]) (fun o ho w' hS => do_move ho (hk.at (List.mem_cons_self ..))) ?_
      clear hk; intro a hk
      refine plan_k rfl hk (by decide) (by repeat' (first | exact far_nil _ | refine far_cons (by decide) ?_)) (v := .int .i64 bl) (fun o ho w' hS => do_extract ho (hk.at (List.mem_cons_self ..)) rfl) ?_
      clear hk; intro a hk
      refine plan_k rfl hk (by decide) (by repeat' (first | exact far_nil _ | refine far_cons (by decide) ?_)) (v := .nilIface) (fun o ho w' hS => do_extract ho (hk.at (List.mem_cons_of_mem _ (List.mem_cons_self ..))) rfl) ?_
      clear hk; intro a hk
      refine plan_k rfl hk (by decide) (by repeat' (first | exact far_nil _ | refine far_cons (by decide) ?_)) (v := .nilIface) (fun o ho w' hS => do_assign ho (hk.at (List.mem_cons_self ..))) ?_
      clear hk; intro a hk
      refine plan_k0 ?_
      refine hK8 _ _ ?_
      clear hK8
      have hk2 : Keeps 122 ([(3, .nilIface), (6, .int .u64 ((m : Nat) : Int)), (5, .int .u64 ((bl : Nat) : Int)), (0, .pointer (some ⟨gm, 0, none⟩))]) a := by
        refine ⟨hk.1, hk.2.1, fun x hx => hk.2.2 x ?_⟩
        rcases List.mem_cons.1 hx with rfl | hx
        · exact List.mem_cons_self ..
        rcases List.mem_cons.1 hx with rfl | hx
        · exact List.mem_cons_of_mem _ (List.mem_cons_of_mem _ (List.mem_cons_of_mem _ (List.mem_cons_of_mem _ (List.mem_cons_of_mem _ (List.mem_cons_of_mem _ (List.mem_cons_of_mem _ (List.mem_cons_of_mem _ (List.mem_cons_of_mem _ (List.mem_cons_of_mem _ (List.mem_cons_of_mem _ (List.mem_cons_of_mem _ (List.mem_cons_of_mem _ (List.mem_cons_of_mem _ (List.mem_cons_self ..))))))))))))))
        rcases List.mem_cons.1 hx with rfl | hx
        · exact List.mem_cons_of_mem _ (List.mem_cons_of_mem _ (List.mem_cons_of_mem _ (List.mem_cons_of_mem _ (List.mem_cons_of_mem _ (List.mem_cons_of_mem _ (List.mem_cons_of_mem _ (List.mem_cons_of_mem _ (List.mem_cons_of_mem _ (List.mem_cons_of_mem _ (List.mem_cons_of_mem _ (List.mem_cons_of_mem _ (List.mem_cons_of_mem _ (List.mem_cons_of_mem _ (List.mem_cons_of_mem _ (List.mem_cons_self ..)))))))))))))))
        rcases List.mem_cons.1 hx with rfl | hx
        · exact List.mem_cons_of_mem _ (List.mem_cons_of_mem _ (List.mem_cons_of_mem _ (List.mem_cons_of_mem _ (List.mem_cons_of_mem _ (List.mem_cons_of_mem _ (List.mem_cons_of_mem _ (List.mem_cons_of_mem _ (List.mem_cons_of_mem _ (List.mem_cons_of_mem _ (List.mem_cons_of_mem _ (List.mem_cons_of_mem _ (List.mem_cons_of_mem _ (List.mem_cons_of_mem _ (List.mem_cons_of_mem _ (List.mem_cons_of_mem _ (List.mem_cons_self ..))))))))))))))))
        cases hx
      clear hk
      have hk := hk2
      clear hk2
      refine wp_seq_k fun K9 hK9 => ?_
      refine wp_region_lit ?_
      refine list_k rfl rfl hk (by decide) (by repeat' (first | exact far_nil _ | refine far_cons (by decide) ?_)) (v := .nilIface) (do_move rfl (hk.at (List.mem_cons_self ..))) ?_
      clear hk; intro a hk
      refine list_k rfl rfl hk (by decide) (by repeat' (first | exact far_nil _ | refine far_cons (by decide) ?_)) (v := .bool false) (do_neqErr rfl (hk.at (List.mem_cons_self ..))) ?_
      clear hk; intro a hk
      refine hK9 _ _ (wp_cond_false (hk.at (List.mem_cons_self ..)) (wp_skip (hK7 _ _ ?_)))
      clear hK9 hK7
      have hk2 : Keeps 122 ([(6, .int .u64 ((m : Nat) : Int)), (5, .int .u64 ((bl : Nat) : Int)), (0, .pointer (some ⟨gm, 0, none⟩))]) a := by
        refine ⟨hk.1, hk.2.1, fun x hx => hk.2.2 x ?_⟩
        rcases List.mem_cons.1 hx with rfl | hx
        · exact List.mem_cons_of_mem _ (List.mem_cons_of_mem _ (List.mem_cons_of_mem _ (List.mem_cons_self ..)))
        rcases List.mem_cons.1 hx with rfl | hx
        · exact List.mem_cons_of_mem _ (List.mem_cons_of_mem _ (List.mem_cons_of_mem _ (List.mem_cons_of_mem _ (List.mem_cons_self ..))))
        rcases List.mem_cons.1 hx with rfl | hx
        · exact List.mem_cons_of_mem _ (List.mem_cons_of_mem _ (List.mem_cons_of_mem _ (List.mem_cons_of_mem _ (List.mem_cons_of_mem _ (List.mem_cons_self ..)))))
        cases hx
      clear hk
      have hk := hk2
      clear hk2
      have T12 := hG.trans ((sets_below hbd _).trans T2)
      have z12 : w2.heap.size = w.heap.size := by rw [z2, hzd, hsz]
      have hl1 : (sb bl xs ++ rd.drop bl).length = 8 := by rw [List.length_append, sb_length, List.length_drop, hr8]; omega
      have hb0 : B (sb bl xs ++ rd.drop bl) 0 < 256 := B_lt _ _
      clear hbd T2 z2 hG hsz
      have htb : UInt8.ofNat (B (sb bl xs ++ rd.drop bl) 0 % 2 ^ m) :: (sb bl xs ++ rd.drop bl).tail = tryB bl m xs rd := rfl
      have hb0m : B (sb bl xs ++ rd.drop bl) 0 % 2 ^ m < 256 := Nat.lt_of_le_of_lt (Nat.mod_le _ _) hb0
      refine wp_seq_k fun K7 hK7 => ?_
      refine region_plan2 (fun w' => w'.cell? ⟨gm, 5 + 0, none⟩ = some (.int .u8 ((B (sb bl xs ++ rd.drop bl) 0 : Nat) : Int))) [(0, 0), (1, 0), (2, 0), (3, 0), (4, 0), (5, 0), (6, 0), (7, 0), (8, 0), (9, 0), (10, 0), (11, 0), (12, 0), (13, 2)] rfl (by kernel_rfl) (by kernel_rfl) rfl (by intro c a d v w h; cases d <;> exact h) (fun w3 h3 hb3 => by rw [(B2.kept hb3).cell]; exact mC_rnd 0 (by rw [hl1]; decide)) ?_
      intro OPS w2d hpW hbd
      have hzd2 : w2d.heap.size = w2.heap.size := by rw [hpW]
      clear hpW
      refine plan_k rfl hk (by decide) (by repeat' (first | exact far_nil _ | refine far_cons (by decide) ?_)) (v := .pointer (some ⟨gm, 0, none⟩)) (fun o ho w' hS => do_move ho (hk.at (List.mem_cons_of_mem _ (List.mem_cons_of_mem _ (List.mem_cons_self ..))))) ?_
      clear hk; intro a hk
      refine plan_k rfl hk (by decide) (by repeat' (first | exact far_nil _ | refine far_cons (by decide) ?_)) (v := .pointer (some ⟨gm, 0, none⟩)) (fun o ho w' hS => do_nilc ho (hk.at (List.mem_cons_self ..))) ?_
      clear hk; intro a hk
      refine plan_k rfl hk (by decide) (by repeat' (first | exact far_nil _ | refine far_cons (by decide) ?_)) (v := .pointer (some ⟨gm, 5, none⟩)) (fun o ho w' hS => do_fld56_4 ho (hk.at (List.mem_cons_self ..))) ?_
      clear hk; intro a hk
      refine plan_k rfl hk (by decide) (by repeat' (first | exact far_nil _ | refine far_cons (by decide) ?_)) (v := .pointer (some ⟨gm, 5 + 0, none⟩)) (fun o ho w' hS => do_arrI (i := 0) ho Try.underlying52 (by kernel_rfl) (hk.at (List.mem_cons_self ..)) rfl (by decide)) ?_
      clear hk; intro a hk
      refine plan_k rfl hk (by decide) (by repeat' (first | exact far_nil _ | refine far_cons (by decide) ?_)) (v := .int .u8 ((B (sb bl xs ++ rd.drop bl) 0 : Nat) : Int)) (fun o ho w' hS => do_ldC ho Try.underlying5 rfl (hk.at (List.mem_cons_self ..)) hS) ?_
      clear hk; intro a hk
      refine plan_k rfl hk (by decide) (by repeat' (first | exact far_nil _ | refine far_cons (by decide) ?_)) (v := .int .u64 ((m : Nat) : Int)) (fun o ho w' hS => do_move ho (hk.at (List.mem_cons_of_mem _ (List.mem_cons_of_mem _ (List.mem_cons_of_mem _ (List.mem_cons_of_mem _ (List.mem_cons_of_mem _ (List.mem_cons_self ..)))))))) ?_
      clear hk; intro a hk
      refine plan_k rfl hk (by decide) (by repeat' (first | exact far_nil _ | refine far_cons (by decide) ?_)) (v := .int .i64 ((2 ^ m : Nat) : Int)) (fun o ho w' hS => do_shl1 ho Try.underlying3 Try.underlying71 (hk.at (List.mem_cons_self ..)) hm8) ?_
      clear hk; intro a hk
      refine plan_k rfl hk (by decide) (by repeat' (first | exact far_nil _ | refine far_cons (by decide) ?_)) (v := .int .i64 ((2 ^ m - 1 : Nat) : Int)) (fun o ho w' hS => (do_subN (n := 1) ho Try.underlying3 (hk.at (List.mem_cons_self ..)) rfl (by rw [IntKind.wrap_i64]; omega))) ?_
      clear hk; intro a hk
      refine plan_k rfl hk (by decide) (by repeat' (first | exact far_nil _ | refine far_cons (by decide) ?_)) (v := .int .u8 ((2 ^ m - 1 : Nat) : Int)) (fun o ho w' hS => do_cvtN ho Try.underlying3 Try.underlying5 (hk.at (List.mem_cons_self ..)) (by rw [IntKind.wrap_u8]; omega)) ?_
      clear hk; intro a hk
      refine plan_k rfl hk (by decide) (by repeat' (first | exact far_nil _ | refine far_cons (by decide) ?_)) (v := .int .u8 ((B (sb bl xs ++ rd.drop bl) 0 % 2 ^ m : Nat) : Int)) (fun o ho w' hS => do_mask ho Try.underlying5 (hk.at (List.mem_cons_of_mem _ (List.mem_cons_of_mem _ (List.mem_cons_of_mem _ (List.mem_cons_of_mem _ (List.mem_cons_self ..)))))) (hk.at (List.mem_cons_self ..)) hb0 hpm.2) ?_
      clear hk; intro a hk
      refine plan_k rfl hk (by decide) (by repeat' (first | exact far_nil _ | refine far_cons (by decide) ?_)) (v := .pointer (some ⟨gm, 0, none⟩)) (fun o ho w' hS => do_nilc ho (hk.at (List.mem_cons_of_mem _ (List.mem_cons_of_mem _ (List.mem_cons_of_mem _ (List.mem_cons_of_mem _ (List.mem_cons_of_mem _ (List.mem_cons_of_mem _ (List.mem_cons_of_mem _ (List.mem_cons_of_mem _ (List.mem_cons_of_mem _ (List.mem_cons_self ..)))))))))))) ?_
      clear hk; intro a hk
      refine plan_k rfl hk (by decide) (by repeat' (first | exact far_nil _ | refine far_cons (by decide) ?_)) (v := .pointer (some ⟨gm, 5, none⟩)) (fun o ho w' hS => do_fld56_4 ho (hk.at (List.mem_cons_self ..))) ?_
      clear hk; intro a hk
      refine plan_k rfl hk (by decide) (by repeat' (first | exact far_nil _ | refine far_cons (by decide) ?_)) (v := .pointer (some ⟨gm, 5 + 0, none⟩)) (fun o ho w' hS => do_arrI (i := 0) ho Try.underlying52 (by kernel_rfl) (hk.at (List.mem_cons_self ..)) rfl (by decide)) ?_
      clear hk; intro a hk
      refine plan_kl2 rfl fun o ho hd hgd => ?_
      refine wp_store_cell hgd ho (by kernel_rfl) (hk.at (List.mem_cons_self ..)) (hk.at (List.mem_cons_of_mem _ (List.mem_cons_of_mem _ (List.mem_cons_of_mem _ (List.mem_cons_self ..))))) rfl (B2.kept hbd) (by rw [mC_length hl1]; decide) fun w3 b3 g3 s3 => ?_
      rw [hd]
      refine keep_0 hk ?_
      clear hk; intro a hk
      show wpPlan _ OPS _ (fun w' => w'.cell? ⟨gm, 5 + 0, none⟩ = some (.int .u8 ((B (sb bl xs ++ rd.drop bl) 0 : Nat) : Int))) (planOps2 _ _) _ _
      refine plan_k0 ?_
      refine hK7 _ _ ?_
      clear hK7
      rw [show (5 + 0 : Nat) = 5 from rfl, mC_set5 _ hb0m (by rw [hl1]; decide), htb] at b3
      have T13 := T12.trans ((sets_below hbd _).trans ((sets_grown g3).mono (fun k hk => by simp at hk ⊢; exact .inl hk)))
      have z13 : w3.heap.size = w.heap.size := by rw [s3, hzd2, z12]
      have S3 : Blk w3 gs [.int .u32 ((itL bl xs : Nat) : Int)] ts := (S2.kept hbd).grown g3 (by intro e; exact hne (Option.some.inj e).symm)
      have hz3 := tryB_zeros bl m xs rd hbl1.1 hz
      have hl3 := tryB_length bl m xs rd hr8 hbl1.1 (by omega)
      have hx3 : itL bl xs < 4294967296 := itL_lt bl xs hxs
      have hgo : n - 1 = 0 → 0 < tv bl (tryB bl m xs rd) ∧ tv bl (tryB bl m xs rd) < inc := fun h0 => by
        rw [h0, Nat.mul_zero, itL_zero] at hgs
        exact tv_good bl m xs inc q rd hxs hbl1.1 hbl1.2 hm1 hz hgs hbl hq1.2 (by omega)
      have hgn : ¬ n - 1 = 0 → goodS bl (itL (bl * (n - 1 - 1)) (itL bl xs)) := fun h0 => by
        rw [← itL_add, show bl + bl * (n - 1 - 1) = bl * (n - 1) by rw [show n - 1 = (n - 1 - 1) + 1 by omega, Nat.mul_succ, Nat.add_sub_cancel]; omega]
        exact hgs
      clear hgs S2 B2 T12 z12 g3 s3 hbd htb hb0 hb0m hl1 hz hr8
      generalize tryB bl m xs rd = rt at *
      generalize itL bl xs = xt at *
      clear hxs hB hS
      have hk2 : Keeps 122 ([(6, .int .u64 ((m : Nat) : Int)), (5, .int .u64 ((bl : Nat) : Int)), (0, .pointer (some ⟨gm, 0, none⟩))]) a := by
        refine ⟨hk.1, hk.2.1, fun x hx => hk.2.2 x ?_⟩
        rcases List.mem_cons.1 hx with rfl | hx
        · exact List.mem_cons_of_mem _ (List.mem_cons_of_mem _ (List.mem_cons_of_mem _ (List.mem_cons_of_mem _ (List.mem_cons_of_mem _ (List.mem_cons_of_mem _ (List.mem_cons_of_mem _ (List.mem_cons_of_mem _ (List.mem_cons_of_mem _ (List.mem_cons_of_mem _ (List.mem_cons_of_mem _ (List.mem_cons_of_mem _ (List.mem_cons_of_mem _ (List.mem_cons_self ..)))))))))))))
        rcases List.mem_cons.1 hx with rfl | hx
        · exact List.mem_cons_of_mem _ (List.mem_cons_of_mem _ (List.mem_cons_of_mem _ (List.mem_cons_of_mem _ (List.mem_cons_of_mem _ (List.mem_cons_of_mem _ (List.mem_cons_of_mem _ (List.mem_cons_of_mem _ (List.mem_cons_of_mem _ (List.mem_cons_of_mem _ (List.mem_cons_of_mem _ (List.mem_cons_of_mem _ (List.mem_cons_of_mem _ (List.mem_cons_of_mem _ (List.mem_cons_self ..))))))))))))))
        rcases List.mem_cons.1 hx with rfl | hx
        · exact List.mem_cons_of_mem _ (List.mem_cons_of_mem _ (List.mem_cons_of_mem _ (List.mem_cons_of_mem _ (List.mem_cons_of_mem _ (List.mem_cons_of_mem _ (List.mem_cons_of_mem _ (List.mem_cons_of_mem _ (List.mem_cons_of_mem _ (List.mem_cons_of_mem _ (List.mem_cons_of_mem _ (List.mem_cons_of_mem _ (List.mem_cons_of_mem _ (List.mem_cons_of_mem _ (List.mem_cons_of_mem _ (List.mem_cons_self ..)))))))))))))))
        cases hx
      clear hk
      have hk := hk2
      clear hk2
      refine wp_seq_k fun K7 hK7 => ?_
      refine wp_region_lit ?_
      refine list_k rfl rfl hk (by decide) (by repeat' (first | exact far_nil _ | refine far_cons (by decide) ?_)) (v := .int .u64 ((bl : Nat) : Int)) (do_move rfl (hk.at (List.mem_cons_of_mem _ (List.mem_cons_self ..)))) ?_
      clear hk; intro a hk
      refine hK7 _ _ ?_
      clear hK7
      have hk2 : Keeps 122 ([(84, .int .u64 ((bl : Nat) : Int)), (6, .int .u64 ((m : Nat) : Int)), (5, .int .u64 ((bl : Nat) : Int)), (0, .pointer (some ⟨gm, 0, none⟩))]) a := by
        refine ⟨hk.1, hk.2.1, fun x hx => hk.2.2 x ?_⟩
        rcases List.mem_cons.1 hx with rfl | hx
        · exact List.mem_cons_self ..
        rcases List.mem_cons.1 hx with rfl | hx
        · exact List.mem_cons_of_mem _ (List.mem_cons_self ..)
        rcases List.mem_cons.1 hx with rfl | hx
        · exact List.mem_cons_of_mem _ (List.mem_cons_of_mem _ (List.mem_cons_self ..))
        rcases List.mem_cons.1 hx with rfl | hx
        · exact List.mem_cons_of_mem _ (List.mem_cons_of_mem _ (List.mem_cons_of_mem _ (List.mem_cons_self ..)))
        cases hx
      clear hk
      have hk := hk2
      clear hk2
      refine wp_mono (Q := fun e a' w' => e = .normal ∧ w' = w3 ∧ Keeps 122 [(6, .int .u64 ((m : Nat) : Int)), (5, .int .u64 ((bl : Nat) : Int)), (2, .int .u64 ((tv bl rt : Nat) : Int)), (0, .pointer (some ⟨gm, 0, none⟩))] a') ?_ ?_
      case refine_2 =>
        rintro e a' w' ⟨rfl, rfl, hk⟩
        refine ⟨n - 1, by omega, xt, rt, tv bl rt, hk, b3, hl3, hz3, S3, hx3, T13, z13, ?_, ?_⟩
        · exact tv_lt bl rt
        · by_cases h0 : n - 1 = 0
          · exact .inl (hgo h0)
          · exact .inr ⟨by omega, hgn h0⟩
      case refine_1 =>
        refine wp_block ?_
        have hcs : bl = 1 ∨ bl = 2 ∨ bl = 3 ∨ bl = 4 ∨ bl = 5 ∨ bl = 6 := by omega
        clear hgo hgn T13 z13 S3 hx3 hz3 hbl hq1 hpm hn1
        rcases hcs with rfl | rfl | rfl | rfl | rfl | rfl
        · refine wp_seq_k fun J1 hJ1 => ?_
          refine wp_region_lit ?_
          refine list_k rfl rfl hk (by decide) (by repeat' (first | exact far_nil _ | refine far_cons (by decide) ?_)) (v := .bool true) ((do_eqlT (m := 1) (n := 1) rfl Try.underlying71 (hk.at (List.mem_cons_self ..)) rfl (by decide))) ?_
          clear hk; intro a hk
          refine list_k rfl rfl hk (by decide) (by repeat' (first | exact far_nil _ | refine far_cons (by decide) ?_)) (v := .bool true) (do_assign rfl (hk.at (List.mem_cons_self ..))) ?_
          clear hk; intro a hk
          refine hJ1 _ _ (wp_cond_true (hk.at (List.mem_cons_self ..)) ?_)
          refine wp_region_lit ?_
          refine list_k rfl rfl hk (by decide) (by repeat' (first | exact far_nil _ | refine far_cons (by decide) ?_)) (v := .pointer (some ⟨gm, 0, none⟩)) (do_move rfl (hk.at (List.mem_cons_of_mem _ (List.mem_cons_of_mem _ (List.mem_cons_of_mem _ (List.mem_cons_of_mem _ (List.mem_cons_of_mem _ (List.mem_cons_self ..)))))))) ?_
          clear hk; intro a hk
          refine list_k rfl rfl hk (by decide) (by repeat' (first | exact far_nil _ | refine far_cons (by decide) ?_)) (v := .pointer (some ⟨gm, 0, none⟩)) (do_nilc rfl (hk.at (List.mem_cons_self ..))) ?_
          clear hk; intro a hk
          refine list_k rfl rfl hk (by decide) (by repeat' (first | exact far_nil _ | refine far_cons (by decide) ?_)) (v := .pointer (some ⟨gm, 5, none⟩)) (do_fld56_4 rfl (hk.at (List.mem_cons_self ..))) ?_
          clear hk; intro a hk
          refine list_k rfl rfl hk (by decide) (by repeat' (first | exact far_nil _ | refine far_cons (by decide) ?_)) (v := .pointer (some ⟨gm, 5 + 0, none⟩)) (do_arrI (i := 0) rfl Try.underlying52 (by kernel_rfl) (hk.at (List.mem_cons_self ..)) rfl (by decide)) ?_
          clear hk; intro a hk
          refine list_k rfl rfl hk (by decide) (by repeat' (first | exact far_nil _ | refine far_cons (by decide) ?_)) (v := .int .u8 ((B rt 0 : Nat) : Int)) (do_ldB rfl Try.underlying5 rfl (hk.at (List.mem_cons_self ..)) b3 (mC_rnd 0 (by rw [hl3]; decide))) ?_
          clear hk; intro a hk
          refine list_k rfl rfl hk (by decide) (by repeat' (first | exact far_nil _ | refine far_cons (by decide) ?_)) (v := .int .u64 ((B rt 0 : Nat) : Int)) (do_cvtN rfl Try.underlying5 Try.underlying24 (hk.at (List.mem_cons_self ..)) (wrapU (by have := B_lt rt 0; omega))) ?_
          clear hk; intro a hk
          refine list_k rfl rfl hk (by decide) (by repeat' (first | exact far_nil _ | refine far_cons (by decide) ?_)) (v := .int .u64 ((B rt 0 : Nat) : Int)) (do_assign rfl (hk.at (List.mem_cons_self ..))) ?_
          clear hk; intro a hk
          refine ⟨rfl, rfl, ?_⟩
          have e : B rt 0 = tv 1 rt := rfl
          rw [e] at hk
          exact hk.sub (fun x hx => by simp at hx ⊢; rcases hx with rfl | rfl | rfl | rfl <;> simp)
        · refine wp_seq_k fun J1 hJ1 => ?_
          refine wp_region_lit ?_
          refine list_k rfl rfl hk (by decide) (by repeat' (first | exact far_nil _ | refine far_cons (by decide) ?_)) (v := .bool false) ((do_eqlF (m := 2) (n := 1) rfl Try.underlying71 (hk.at (List.mem_cons_self ..)) rfl (by decide))) ?_
          clear hk; intro a hk
          refine list_k rfl rfl hk (by decide) (by repeat' (first | exact far_nil _ | refine far_cons (by decide) ?_)) (v := .bool false) (do_assign rfl (hk.at (List.mem_cons_self ..))) ?_
          clear hk; intro a hk
          refine hJ1 _ _ (wp_cond_false (hk.at (List.mem_cons_self ..)) ?_)
          refine wp_seq_k fun J2 hJ2 => ?_
          refine wp_region_lit ?_
          refine list_k rfl rfl hk (by decide) (by repeat' (first | exact far_nil _ | refine far_cons (by decide) ?_)) (v := .bool true) ((do_eqlT (m := 2) (n := 2) rfl Try.underlying71 (hk.at (List.mem_cons_of_mem _ (List.mem_cons_of_mem _ (List.mem_cons_self ..)))) rfl (by decide))) ?_
          clear hk; intro a hk
          refine list_k rfl rfl hk (by decide) (by repeat' (first | exact far_nil _ | refine far_cons (by decide) ?_)) (v := .bool true) (do_assign rfl (hk.at (List.mem_cons_self ..))) ?_
          clear hk; intro a hk
          refine hJ2 _ _ (wp_cond_true (hk.at (List.mem_cons_self ..)) ?_)
          refine wp_region_lit ?_
          refine list_k rfl rfl hk (by decide) (by repeat' (first | exact far_nil _ | refine far_cons (by decide) ?_)) (v := .pointer (some ⟨gm, 0, none⟩)) (do_move rfl (hk.at (List.mem_cons_of_mem _ (List.mem_cons_of_mem _ (List.mem_cons_of_mem _ (List.mem_cons_of_mem _ (List.mem_cons_of_mem _ (List.mem_cons_of_mem _ (List.mem_cons_of_mem _ (List.mem_cons_self ..)))))))))) ?_
          clear hk; intro a hk
          refine list_k rfl rfl hk (by decide) (by repeat' (first | exact far_nil _ | refine far_cons (by decide) ?_)) (v := .pointer (some ⟨gm, 0, none⟩)) (do_nilc rfl (hk.at (List.mem_cons_self ..))) ?_
          clear hk; intro a hk
          refine list_k rfl rfl hk (by decide) (by repeat' (first | exact far_nil _ | refine far_cons (by decide) ?_)) (v := .pointer (some ⟨gm, 5, none⟩)) (do_fld56_4 rfl (hk.at (List.mem_cons_self ..))) ?_
          clear hk; intro a hk
          refine list_k rfl rfl hk (by decide) (by repeat' (first | exact far_nil _ | refine far_cons (by decide) ?_)) (v := .slice (some ⟨gm, 5, none⟩) 2 8) ((do_arrH (h := 2) rfl Try.underlying52 (by kernel_rfl) (hk.at (List.mem_cons_self ..)) rfl (by decide))) ?_
          clear hk; intro a hk
          refine wp_call rfl (do_call1 rfl (hk.at (List.mem_cons_self ..)) (le16_enter _)) (leUint16_ok gm 5 2 8 (rt.take 2) _ (rdTake b3 hl3 2 (by decide)) (by rw [List.length_take, hl3]; rfl) (by decide)) ?_
          rintro e w4 ⟨rfl, rfl⟩
          refine ⟨_, rfl, ?_⟩
          refine keep_k (v := .int .u16 ((num (rt.take 2).reverse : Nat) : Int)) hk (by decide) (by repeat' (first | exact far_nil _ | refine far_cons (by decide) ?_)) ?_
          clear hk; intro a hk
          refine list_k rfl rfl hk (by decide) (by repeat' (first | exact far_nil _ | refine far_cons (by decide) ?_)) (v := .int .u64 ((num (rt.take 2).reverse : Nat) : Int)) (do_cvtN rfl Try.underlying49 Try.underlying24 (hk.at (List.mem_cons_self ..)) (wrapU (by have := num_lt (rt.take 2).reverse; rw [List.length_reverse, List.length_take, hl3] at this; simp at this; omega))) ?_
          clear hk; intro a hk
          refine list_k rfl rfl hk (by decide) (by repeat' (first | exact far_nil _ | refine far_cons (by decide) ?_)) (v := .int .u64 ((num (rt.take 2).reverse : Nat) : Int)) (do_assign rfl (hk.at (List.mem_cons_self ..))) ?_
          clear hk; intro a hk
          refine ⟨rfl, rfl, ?_⟩
          have e : num (rt.take 2).reverse = tv 2 rt := rfl
          rw [e] at hk
          exact hk.sub (fun x hx => by simp at hx ⊢; rcases hx with rfl | rfl | rfl | rfl <;> simp)
        · refine wp_seq_k fun J1 hJ1 => ?_
          refine wp_region_lit ?_
          refine list_k rfl rfl hk (by decide) (by repeat' (first | exact far_nil _ | refine far_cons (by decide) ?_)) (v := .bool false) ((do_eqlF (m := 3) (n := 1) rfl Try.underlying71 (hk.at (List.mem_cons_self ..)) rfl (by decide))) ?_
          clear hk; intro a hk
          refine list_k rfl rfl hk (by decide) (by repeat' (first | exact far_nil _ | refine far_cons (by decide) ?_)) (v := .bool false) (do_assign rfl (hk.at (List.mem_cons_self ..))) ?_
          clear hk; intro a hk
          refine hJ1 _ _ (wp_cond_false (hk.at (List.mem_cons_self ..)) ?_)
          refine wp_seq_k fun J2 hJ2 => ?_
          refine wp_region_lit ?_
          refine list_k rfl rfl hk (by decide) (by repeat' (first | exact far_nil _ | refine far_cons (by decide) ?_)) (v := .bool false) ((do_eqlF (m := 3) (n := 2) rfl Try.underlying71 (hk.at (List.mem_cons_of_mem _ (List.mem_cons_of_mem _ (List.mem_cons_self ..)))) rfl (by decide))) ?_
          clear hk; intro a hk
          refine list_k rfl rfl hk (by decide) (by repeat' (first | exact far_nil _ | refine far_cons (by decide) ?_)) (v := .bool false) (do_assign rfl (hk.at (List.mem_cons_self ..))) ?_
          clear hk; intro a hk
          refine hJ2 _ _ (wp_cond_false (hk.at (List.mem_cons_self ..)) ?_)
          refine wp_seq_k fun J3 hJ3 => ?_
          refine wp_seq_k fun J4 hJ4 => ?_
          refine wp_region_lit ?_
          refine list_k rfl rfl hk (by decide) (by repeat' (first | exact far_nil _ | refine far_cons (by decide) ?_)) (v := .bool true) ((do_eqlT (m := 3) (n := 3) rfl Try.underlying71 (hk.at (List.mem_cons_of_mem _ (List.mem_cons_of_mem _ (List.mem_cons_of_mem _ (List.mem_cons_of_mem _ (List.mem_cons_self ..)))))) rfl (by decide))) ?_
          clear hk; intro a hk
          refine list_k rfl rfl hk (by decide) (by repeat' (first | exact far_nil _ | refine far_cons (by decide) ?_)) (v := .bool true) (do_assign rfl (hk.at (List.mem_cons_self ..))) ?_
          clear hk; intro a hk
          refine hJ4 _ _ (wp_cond_true (hk.at (List.mem_cons_self ..)) ?_)
          refine wp_skip (hJ3 _ _ (wp_cond_true (hk.at (List.mem_cons_self ..)) ?_))
          refine wp_region_lit ?_
          refine list_k rfl rfl hk (by decide) (by repeat' (first | exact far_nil _ | refine far_cons (by decide) ?_)) (v := .pointer (some ⟨gm, 0, none⟩)) (do_move rfl (hk.at (List.mem_cons_of_mem _ (List.mem_cons_of_mem _ (List.mem_cons_of_mem _ (List.mem_cons_of_mem _ (List.mem_cons_of_mem _ (List.mem_cons_of_mem _ (List.mem_cons_of_mem _ (List.mem_cons_of_mem _ (List.mem_cons_of_mem _ (List.mem_cons_self ..)))))))))))) ?_
          clear hk; intro a hk
          refine list_k rfl rfl hk (by decide) (by repeat' (first | exact far_nil _ | refine far_cons (by decide) ?_)) (v := .pointer (some ⟨gm, 0, none⟩)) (do_nilc rfl (hk.at (List.mem_cons_self ..))) ?_
          clear hk; intro a hk
          refine list_k rfl rfl hk (by decide) (by repeat' (first | exact far_nil _ | refine far_cons (by decide) ?_)) (v := .pointer (some ⟨gm, 5, none⟩)) (do_fld56_4 rfl (hk.at (List.mem_cons_self ..))) ?_
          clear hk; intro a hk
          refine list_k rfl rfl hk (by decide) (by repeat' (first | exact far_nil _ | refine far_cons (by decide) ?_)) (v := .slice (some ⟨gm, 5, none⟩) 4 8) ((do_arrH (h := 4) rfl Try.underlying52 (by kernel_rfl) (hk.at (List.mem_cons_self ..)) rfl (by decide))) ?_
          clear hk; intro a hk
          refine wp_call rfl (do_call1 rfl (hk.at (List.mem_cons_self ..)) (le32_enter _)) (leUint32_ok gm 5 4 8 (rt.take 4) _ (rdTake b3 hl3 4 (by decide)) (by rw [List.length_take, hl3]; rfl) (by decide)) ?_
          rintro e w4 ⟨rfl, rfl⟩
          refine ⟨_, rfl, ?_⟩
          refine keep_k (v := .int .u32 ((num (rt.take 4).reverse : Nat) : Int)) hk (by decide) (by repeat' (first | exact far_nil _ | refine far_cons (by decide) ?_)) ?_
          clear hk; intro a hk
          refine list_k rfl rfl hk (by decide) (by repeat' (first | exact far_nil _ | refine far_cons (by decide) ?_)) (v := .int .u64 ((num (rt.take 4).reverse : Nat) : Int)) (do_cvtN rfl Try.underlying23 Try.underlying24 (hk.at (List.mem_cons_self ..)) (wrapU (by have := num_lt (rt.take 4).reverse; rw [List.length_reverse, List.length_take, hl3] at this; simp at this; omega))) ?_
          clear hk; intro a hk
          refine list_k rfl rfl hk (by decide) (by repeat' (first | exact far_nil _ | refine far_cons (by decide) ?_)) (v := .int .u64 ((num (rt.take 4).reverse : Nat) : Int)) (do_assign rfl (hk.at (List.mem_cons_self ..))) ?_
          clear hk; intro a hk
          refine ⟨rfl, rfl, ?_⟩
          have e : num (rt.take 4).reverse = tv 3 rt := rfl
          rw [e] at hk
          exact hk.sub (fun x hx => by simp at hx ⊢; rcases hx with rfl | rfl | rfl | rfl <;> simp)
        · refine wp_seq_k fun J1 hJ1 => ?_
          refine wp_region_lit ?_
          refine list_k rfl rfl hk (by decide) (by repeat' (first | exact far_nil _ | refine far_cons (by decide) ?_)) (v := .bool false) ((do_eqlF (m := 4) (n := 1) rfl Try.underlying71 (hk.at (List.mem_cons_self ..)) rfl (by decide))) ?_
          clear hk; intro a hk
          refine list_k rfl rfl hk (by decide) (by repeat' (first | exact far_nil _ | refine far_cons (by decide) ?_)) (v := .bool false) (do_assign rfl (hk.at (List.mem_cons_self ..))) ?_
          clear hk; intro a hk
          refine hJ1 _ _ (wp_cond_false (hk.at (List.mem_cons_self ..)) ?_)
          refine wp_seq_k fun J2 hJ2 => ?_
          refine wp_region_lit ?_
          refine list_k rfl rfl hk (by decide) (by repeat' (first | exact far_nil _ | refine far_cons (by decide) ?_)) (v := .bool false) ((do_eqlF (m := 4) (n := 2) rfl Try.underlying71 (hk.at (List.mem_cons_of_mem _ (List.mem_cons_of_mem _ (List.mem_cons_self ..)))) rfl (by decide))) ?_
          clear hk; intro a hk
          refine list_k rfl rfl hk (by decide) (by repeat' (first | exact far_nil _ | refine far_cons (by decide) ?_)) (v := .bool false) (do_assign rfl (hk.at (List.mem_cons_self ..))) ?_
          clear hk; intro a hk
          refine hJ2 _ _ (wp_cond_false (hk.at (List.mem_cons_self ..)) ?_)
          refine wp_seq_k fun J3 hJ3 => ?_
          refine wp_seq_k fun J4 hJ4 => ?_
          refine wp_region_lit ?_
          refine list_k rfl rfl hk (by decide) (by repeat' (first | exact far_nil _ | refine far_cons (by decide) ?_)) (v := .bool false) ((do_eqlF (m := 4) (n := 3) rfl Try.underlying71 (hk.at (List.mem_cons_of_mem _ (List.mem_cons_of_mem _ (List.mem_cons_of_mem _ (List.mem_cons_of_mem _ (List.mem_cons_self ..)))))) rfl (by decide))) ?_
          clear hk; intro a hk
          refine list_k rfl rfl hk (by decide) (by repeat' (first | exact far_nil _ | refine far_cons (by decide) ?_)) (v := .bool false) (do_assign rfl (hk.at (List.mem_cons_self ..))) ?_
          clear hk; intro a hk
          refine hJ4 _ _ (wp_cond_false (hk.at (List.mem_cons_self ..)) ?_)
          refine wp_region_lit ?_
          refine list_k rfl rfl hk (by decide) (by repeat' (first | exact far_nil _ | refine far_cons (by decide) ?_)) (v := .bool true) ((do_eqlT (m := 4) (n := 4) rfl Try.underlying71 (hk.at (List.mem_cons_of_mem _ (List.mem_cons_of_mem _ (List.mem_cons_of_mem _ (List.mem_cons_of_mem _ (List.mem_cons_of_mem _ (List.mem_cons_of_mem _ (List.mem_cons_self ..)))))))) rfl (by decide))) ?_
          clear hk; intro a hk
          have hk2 : Keeps 122 ([(103, .bool true), (102, .bool false), (93, .bool false), (94, .bool false), (85, .bool false), (86, .bool false), (84, .int .u64 ((4 : Nat) : Int)), (6, .int .u64 ((m : Nat) : Int)), (5, .int .u64 ((4 : Nat) : Int)), (0, .pointer (some ⟨gm, 0, none⟩))]) a := by
            refine ⟨hk.1, hk.2.1, fun x hx => hk.2.2 x ?_⟩
            rcases List.mem_cons.1 hx with rfl | hx
            · exact List.mem_cons_self ..
            rcases List.mem_cons.1 hx with rfl | hx
            · exact List.mem_cons_of_mem _ (List.mem_cons_of_mem _ (List.mem_cons_self ..))
            rcases List.mem_cons.1 hx with rfl | hx
            · exact List.mem_cons_of_mem _ (List.mem_cons_of_mem _ (List.mem_cons_of_mem _ (List.mem_cons_self ..)))
            rcases List.mem_cons.1 hx with rfl | hx
            · exact List.mem_cons_of_mem _ (List.mem_cons_of_mem _ (List.mem_cons_of_mem _ (List.mem_cons_of_mem _ (List.mem_cons_self ..))))
            rcases List.mem_cons.1 hx with rfl | hx
            · exact List.mem_cons_of_mem _ (List.mem_cons_of_mem _ (List.mem_cons_of_mem _ (List.mem_cons_of_mem _ (List.mem_cons_of_mem _ (List.mem_cons_self ..)))))
            rcases List.mem_cons.1 hx with rfl | hx
            · exact List.mem_cons_of_mem _ (List.mem_cons_of_mem _ (List.mem_cons_of_mem _ (List.mem_cons_of_mem _ (List.mem_cons_of_mem _ (List.mem_cons_of_mem _ (List.mem_cons_self ..))))))
            rcases List.mem_cons.1 hx with rfl | hx
            · exact List.mem_cons_of_mem _ (List.mem_cons_of_mem _ (List.mem_cons_of_mem _ (List.mem_cons_of_mem _ (List.mem_cons_of_mem _ (List.mem_cons_of_mem _ (List.mem_cons_of_mem _ (List.mem_cons_self ..)))))))
            rcases List.mem_cons.1 hx with rfl | hx
            · exact List.mem_cons_of_mem _ (List.mem_cons_of_mem _ (List.mem_cons_of_mem _ (List.mem_cons_of_mem _ (List.mem_cons_of_mem _ (List.mem_cons_of_mem _ (List.mem_cons_of_mem _ (List.mem_cons_of_mem _ (List.mem_cons_self ..))))))))
            rcases List.mem_cons.1 hx with rfl | hx
            · exact List.mem_cons_of_mem _ (List.mem_cons_of_mem _ (List.mem_cons_of_mem _ (List.mem_cons_of_mem _ (List.mem_cons_of_mem _ (List.mem_cons_of_mem _ (List.mem_cons_of_mem _ (List.mem_cons_of_mem _ (List.mem_cons_of_mem _ (List.mem_cons_self ..)))))))))
            rcases List.mem_cons.1 hx with rfl | hx
            · exact List.mem_cons_of_mem _ (List.mem_cons_of_mem _ (List.mem_cons_of_mem _ (List.mem_cons_of_mem _ (List.mem_cons_of_mem _ (List.mem_cons_of_mem _ (List.mem_cons_of_mem _ (List.mem_cons_of_mem _ (List.mem_cons_of_mem _ (List.mem_cons_of_mem _ (List.mem_cons_self ..))))))))))
            cases hx
          clear hk
          have hk := hk2
          clear hk2
          refine list_k rfl rfl hk (by decide) (by repeat' (first | exact far_nil _ | refine far_cons (by decide) ?_)) (v := .bool true) (do_assign rfl (hk.at (List.mem_cons_self ..))) ?_
          clear hk; intro a hk
          refine hJ3 _ _ (wp_cond_true (hk.at (List.mem_cons_self ..)) ?_)
          refine wp_region_lit ?_
          refine list_k rfl rfl hk (by decide) (by repeat' (first | exact far_nil _ | refine far_cons (by decide) ?_)) (v := .pointer (some ⟨gm, 0, none⟩)) (do_move rfl (hk.at (List.mem_cons_of_mem _ (List.mem_cons_of_mem _ (List.mem_cons_of_mem _ (List.mem_cons_of_mem _ (List.mem_cons_of_mem _ (List.mem_cons_of_mem _ (List.mem_cons_of_mem _ (List.mem_cons_of_mem _ (List.mem_cons_of_mem _ (List.mem_cons_of_mem _ (List.mem_cons_self ..))))))))))))) ?_
          clear hk; intro a hk
          refine list_k rfl rfl hk (by decide) (by repeat' (first | exact far_nil _ | refine far_cons (by decide) ?_)) (v := .pointer (some ⟨gm, 0, none⟩)) (do_nilc rfl (hk.at (List.mem_cons_self ..))) ?_
          clear hk; intro a hk
          refine list_k rfl rfl hk (by decide) (by repeat' (first | exact far_nil _ | refine far_cons (by decide) ?_)) (v := .pointer (some ⟨gm, 5, none⟩)) (do_fld56_4 rfl (hk.at (List.mem_cons_self ..))) ?_
          clear hk; intro a hk
          refine list_k rfl rfl hk (by decide) (by repeat' (first | exact far_nil _ | refine far_cons (by decide) ?_)) (v := .slice (some ⟨gm, 5, none⟩) 4 8) ((do_arrH (h := 4) rfl Try.underlying52 (by kernel_rfl) (hk.at (List.mem_cons_self ..)) rfl (by decide))) ?_
          clear hk; intro a hk
          refine wp_call rfl (do_call1 rfl (hk.at (List.mem_cons_self ..)) (le32_enter _)) (leUint32_ok gm 5 4 8 (rt.take 4) _ (rdTake b3 hl3 4 (by decide)) (by rw [List.length_take, hl3]; rfl) (by decide)) ?_
          rintro e w4 ⟨rfl, rfl⟩
          refine ⟨_, rfl, ?_⟩
          refine keep_k (v := .int .u32 ((num (rt.take 4).reverse : Nat) : Int)) hk (by decide) (by repeat' (first | exact far_nil _ | refine far_cons (by decide) ?_)) ?_
          clear hk; intro a hk
          refine list_k rfl rfl hk (by decide) (by repeat' (first | exact far_nil _ | refine far_cons (by decide) ?_)) (v := .int .u64 ((num (rt.take 4).reverse : Nat) : Int)) (do_cvtN rfl Try.underlying23 Try.underlying24 (hk.at (List.mem_cons_self ..)) (wrapU (by have := num_lt (rt.take 4).reverse; rw [List.length_reverse, List.length_take, hl3] at this; simp at this; omega))) ?_
          clear hk; intro a hk
          refine list_k rfl rfl hk (by decide) (by repeat' (first | exact far_nil _ | refine far_cons (by decide) ?_)) (v := .int .u64 ((num (rt.take 4).reverse : Nat) : Int)) (do_assign rfl (hk.at (List.mem_cons_self ..))) ?_
          clear hk; intro a hk
          refine ⟨rfl, rfl, ?_⟩
          have e : num (rt.take 4).reverse = tv 4 rt := rfl
          rw [e] at hk
          exact hk.sub (fun x hx => by simp at hx ⊢; rcases hx with rfl | rfl | rfl | rfl <;> simp)
        · refine wp_seq_k fun J1 hJ1 => ?_
          refine wp_region_lit ?_
          refine list_k rfl rfl hk (by decide) (by repeat' (first | exact far_nil _ | refine far_cons (by decide) ?_)) (v := .bool false) ((do_eqlF (m := 5) (n := 1) rfl Try.underlying71 (hk.at (List.mem_cons_self ..)) rfl (by decide))) ?_
          clear hk; intro a hk
          refine list_k rfl rfl hk (by decide) (by repeat' (first | exact far_nil _ | refine far_cons (by decide) ?_)) (v := .bool false) (do_assign rfl (hk.at (List.mem_cons_self ..))) ?_
          clear hk; intro a hk
          refine hJ1 _ _ (wp_cond_false (hk.at (List.mem_cons_self ..)) ?_)
          refine wp_seq_k fun J2 hJ2 => ?_
          refine wp_region_lit ?_
          refine list_k rfl rfl hk (by decide) (by repeat' (first | exact far_nil _ | refine far_cons (by decide) ?_)) (v := .bool false) ((do_eqlF (m := 5) (n := 2) rfl Try.underlying71 (hk.at (List.mem_cons_of_mem _ (List.mem_cons_of_mem _ (List.mem_cons_self ..)))) rfl (by decide))) ?_
          clear hk; intro a hk
          refine list_k rfl rfl hk (by decide) (by repeat' (first | exact far_nil _ | refine far_cons (by decide) ?_)) (v := .bool false) (do_assign rfl (hk.at (List.mem_cons_self ..))) ?_
          clear hk; intro a hk
          refine hJ2 _ _ (wp_cond_false (hk.at (List.mem_cons_self ..)) ?_)
          refine wp_seq_k fun J3 hJ3 => ?_
          refine wp_seq_k fun J4 hJ4 => ?_
          refine wp_region_lit ?_
          refine list_k rfl rfl hk (by decide) (by repeat' (first | exact far_nil _ | refine far_cons (by decide) ?_)) (v := .bool false) ((do_eqlF (m := 5) (n := 3) rfl Try.underlying71 (hk.at (List.mem_cons_of_mem _ (List.mem_cons_of_mem _ (List.mem_cons_of_mem _ (List.mem_cons_of_mem _ (List.mem_cons_self ..)))))) rfl (by decide))) ?_
          clear hk; intro a hk
          refine list_k rfl rfl hk (by decide) (by repeat' (first | exact far_nil _ | refine far_cons (by decide) ?_)) (v := .bool false) (do_assign rfl (hk.at (List.mem_cons_self ..))) ?_
          clear hk; intro a hk
          refine hJ4 _ _ (wp_cond_false (hk.at (List.mem_cons_self ..)) ?_)
          refine wp_region_lit ?_
          refine list_k rfl rfl hk (by decide) (by repeat' (first | exact far_nil _ | refine far_cons (by decide) ?_)) (v := .bool false) ((do_eqlF (m := 5) (n := 4) rfl Try.underlying71 (hk.at (List.mem_cons_of_mem _ (List.mem_cons_of_mem _ (List.mem_cons_of_mem _ (List.mem_cons_of_mem _ (List.mem_cons_of_mem _ (List.mem_cons_of_mem _ (List.mem_cons_self ..)))))))) rfl (by decide))) ?_
          clear hk; intro a hk
          have hk2 : Keeps 122 ([(103, .bool false), (102, .bool false), (93, .bool false), (94, .bool false), (85, .bool false), (86, .bool false), (84, .int .u64 ((5 : Nat) : Int)), (6, .int .u64 ((m : Nat) : Int)), (5, .int .u64 ((5 : Nat) : Int)), (0, .pointer (some ⟨gm, 0, none⟩))]) a := by
            refine ⟨hk.1, hk.2.1, fun x hx => hk.2.2 x ?_⟩
            rcases List.mem_cons.1 hx with rfl | hx
            · exact List.mem_cons_self ..
            rcases List.mem_cons.1 hx with rfl | hx
            · exact List.mem_cons_of_mem _ (List.mem_cons_of_mem _ (List.mem_cons_self ..))
            rcases List.mem_cons.1 hx with rfl | hx
            · exact List.mem_cons_of_mem _ (List.mem_cons_of_mem _ (List.mem_cons_of_mem _ (List.mem_cons_self ..)))
            rcases List.mem_cons.1 hx with rfl | hx
            · exact List.mem_cons_of_mem _ (List.mem_cons_of_mem _ (List.mem_cons_of_mem _ (List.mem_cons_of_mem _ (List.mem_cons_self ..))))
            rcases List.mem_cons.1 hx with rfl | hx
            · exact List.mem_cons_of_mem _ (List.mem_cons_of_mem _ (List.mem_cons_of_mem _ (List.mem_cons_of_mem _ (List.mem_cons_of_mem _ (List.mem_cons_self ..)))))
            rcases List.mem_cons.1 hx with rfl | hx
            · exact List.mem_cons_of_mem _ (List.mem_cons_of_mem _ (List.mem_cons_of_mem _ (List.mem_cons_of_mem _ (List.mem_cons_of_mem _ (List.mem_cons_of_mem _ (List.mem_cons_self ..))))))
            rcases List.mem_cons.1 hx with rfl | hx
            · exact List.mem_cons_of_mem _ (List.mem_cons_of_mem _ (List.mem_cons_of_mem _ (List.mem_cons_of_mem _ (List.mem_cons_of_mem _ (List.mem_cons_of_mem _ (List.mem_cons_of_mem _ (List.mem_cons_self ..)))))))
            rcases List.mem_cons.1 hx with rfl | hx
            · exact List.mem_cons_of_mem _ (List.mem_cons_of_mem _ (List.mem_cons_of_mem _ (List.mem_cons_of_mem _ (List.mem_cons_of_mem _ (List.mem_cons_of_mem _ (List.mem_cons_of_mem _ (List.mem_cons_of_mem _ (List.mem_cons_self ..))))))))
            rcases List.mem_cons.1 hx with rfl | hx
            · exact List.mem_cons_of_mem _ (List.mem_cons_of_mem _ (List.mem_cons_of_mem _ (List.mem_cons_of_mem _ (List.mem_cons_of_mem _ (List.mem_cons_of_mem _ (List.mem_cons_of_mem _ (List.mem_cons_of_mem _ (List.mem_cons_of_mem _ (List.mem_cons_self ..)))))))))
            rcases List.mem_cons.1 hx with rfl | hx
            · exact List.mem_cons_of_mem _ (List.mem_cons_of_mem _ (List.mem_cons_of_mem _ (List.mem_cons_of_mem _ (List.mem_cons_of_mem _ (List.mem_cons_of_mem _ (List.mem_cons_of_mem _ (List.mem_cons_of_mem _ (List.mem_cons_of_mem _ (List.mem_cons_of_mem _ (List.mem_cons_self ..))))))))))
            cases hx
          clear hk
          have hk := hk2
          clear hk2
          refine list_k rfl rfl hk (by decide) (by repeat' (first | exact far_nil _ | refine far_cons (by decide) ?_)) (v := .bool false) (do_assign rfl (hk.at (List.mem_cons_self ..))) ?_
          clear hk; intro a hk
          refine hJ3 _ _ (wp_cond_false (hk.at (List.mem_cons_self ..)) ?_)
          refine wp_seq_k fun J5 hJ5 => ?_
          refine wp_seq_k fun J6 hJ6 => ?_
          refine wp_region_lit ?_
          refine list_k rfl rfl hk (by decide) (by repeat' (first | exact far_nil _ | refine far_cons (by decide) ?_)) (v := .bool true) ((do_eqlT (m := 5) (n := 5) rfl Try.underlying71 (hk.at (List.mem_cons_of_mem _ (List.mem_cons_of_mem _ (List.mem_cons_of_mem _ (List.mem_cons_of_mem _ (List.mem_cons_of_mem _ (List.mem_cons_of_mem _ (List.mem_cons_of_mem _ (List.mem_cons_self ..))))))))) rfl (by decide))) ?_
          clear hk; intro a hk
          refine list_k rfl rfl hk (by decide) (by repeat' (first | exact far_nil _ | refine far_cons (by decide) ?_)) (v := .bool true) (do_assign rfl (hk.at (List.mem_cons_self ..))) ?_
          clear hk; intro a hk
          refine hJ6 _ _ (wp_cond_true (hk.at (List.mem_cons_self ..)) ?_)
          refine wp_skip (hJ5 _ _ (wp_cond_true (hk.at (List.mem_cons_self ..)) ?_))
          refine wp_region_lit ?_
          refine list_k rfl rfl hk (by decide) (by repeat' (first | exact far_nil _ | refine far_cons (by decide) ?_)) (v := .pointer (some ⟨gm, 0, none⟩)) (do_move rfl (hk.at (List.mem_cons_of_mem _ (List.mem_cons_of_mem _ (List.mem_cons_of_mem _ (List.mem_cons_of_mem _ (List.mem_cons_of_mem _ (List.mem_cons_of_mem _ (List.mem_cons_of_mem _ (List.mem_cons_of_mem _ (List.mem_cons_of_mem _ (List.mem_cons_of_mem _ (List.mem_cons_of_mem _ (List.mem_cons_of_mem _ (List.mem_cons_self ..))))))))))))))) ?_
          clear hk; intro a hk
          refine list_k rfl rfl hk (by decide) (by repeat' (first | exact far_nil _ | refine far_cons (by decide) ?_)) (v := .pointer (some ⟨gm, 0, none⟩)) (do_nilc rfl (hk.at (List.mem_cons_self ..))) ?_
          clear hk; intro a hk
          refine list_k rfl rfl hk (by decide) (by repeat' (first | exact far_nil _ | refine far_cons (by decide) ?_)) (v := .pointer (some ⟨gm, 5, none⟩)) (do_fld56_4 rfl (hk.at (List.mem_cons_self ..))) ?_
          clear hk; intro a hk
          refine list_k rfl rfl hk (by decide) (by repeat' (first | exact far_nil _ | refine far_cons (by decide) ?_)) (v := .slice (some ⟨gm, 5, none⟩) 8 8) ((do_arrH (h := 8) rfl Try.underlying52 (by kernel_rfl) (hk.at (List.mem_cons_self ..)) rfl (by decide))) ?_
          clear hk; intro a hk
          refine wp_call rfl (do_call1 rfl (hk.at (List.mem_cons_self ..)) (le64_enter _)) (leUint64_ok gm 5 8 8 (rt.take 8) _ (rdTake b3 hl3 8 (by decide)) (by rw [List.length_take, hl3]; rfl) (by decide)) ?_
          rintro e w4 ⟨rfl, rfl⟩
          refine ⟨_, rfl, ?_⟩
          refine keep_k (v := .int .u64 ((num (rt.take 8).reverse : Nat) : Int)) hk (by decide) (by repeat' (first | exact far_nil _ | refine far_cons (by decide) ?_)) ?_
          clear hk; intro a hk
          refine list_k rfl rfl hk (by decide) (by repeat' (first | exact far_nil _ | refine far_cons (by decide) ?_)) (v := .int .u64 ((num (rt.take 8).reverse : Nat) : Int)) (do_assign rfl (hk.at (List.mem_cons_self ..))) ?_
          clear hk; intro a hk
          refine ⟨rfl, rfl, ?_⟩
          have e : num (rt.take 8).reverse = tv 5 rt := rfl
          rw [e] at hk
          exact hk.sub (fun x hx => by simp at hx ⊢; rcases hx with rfl | rfl | rfl | rfl <;> simp)
        · refine wp_seq_k fun J1 hJ1 => ?_
          refine wp_region_lit ?_
          refine list_k rfl rfl hk (by decide) (by repeat' (first | exact far_nil _ | refine far_cons (by decide) ?_)) (v := .bool false) ((do_eqlF (m := 6) (n := 1) rfl Try.underlying71 (hk.at (List.mem_cons_self ..)) rfl (by decide))) ?_
          clear hk; intro a hk
          refine list_k rfl rfl hk (by decide) (by repeat' (first | exact far_nil _ | refine far_cons (by decide) ?_)) (v := .bool false) (do_assign rfl (hk.at (List.mem_cons_self ..))) ?_
          clear hk; intro a hk
          refine hJ1 _ _ (wp_cond_false (hk.at (List.mem_cons_self ..)) ?_)
          refine wp_seq_k fun J2 hJ2 => ?_
          refine wp_region_lit ?_
          refine list_k rfl rfl hk (by decide) (by repeat' (first | exact far_nil _ | refine far_cons (by decide) ?_)) (v := .bool false) ((do_eqlF (m := 6) (n := 2) rfl Try.underlying71 (hk.at (List.mem_cons_of_mem _ (List.mem_cons_of_mem _ (List.mem_cons_self ..)))) rfl (by decide))) ?_
          clear hk; intro a hk
          refine list_k rfl rfl hk (by decide) (by repeat' (first | exact far_nil _ | refine far_cons (by decide) ?_)) (v := .bool false) (do_assign rfl (hk.at (List.mem_cons_self ..))) ?_
          clear hk; intro a hk
          refine hJ2 _ _ (wp_cond_false (hk.at (List.mem_cons_self ..)) ?_)
          refine wp_seq_k fun J3 hJ3 => ?_
          refine wp_seq_k fun J4 hJ4 => ?_
          refine wp_region_lit ?_
          refine list_k rfl rfl hk (by decide) (by repeat' (first | exact far_nil _ | refine far_cons (by decide) ?_)) (v := .bool false) ((do_eqlF (m := 6) (n := 3) rfl Try.underlying71 (hk.at (List.mem_cons_of_mem _ (List.mem_cons_of_mem _ (List.mem_cons_of_mem _ (List.mem_cons_of_mem _ (List.mem_cons_self ..)))))) rfl (by decide))) ?_
          clear hk; intro a hk
          refine list_k rfl rfl hk (by decide) (by repeat' (first | exact far_nil _ | refine far_cons (by decide) ?_)) (v := .bool false) (do_assign rfl (hk.at (List.mem_cons_self ..))) ?_
          clear hk; intro a hk
          refine hJ4 _ _ (wp_cond_false (hk.at (List.mem_cons_self ..)) ?_)
          refine wp_region_lit ?_
          refine list_k rfl rfl hk (by decide) (by repeat' (first | exact far_nil _ | refine far_cons (by decide) ?_)) (v := .bool false) ((do_eqlF (m := 6) (n := 4) rfl Try.underlying71 (hk.at (List.mem_cons_of_mem _ (List.mem_cons_of_mem _ (List.mem_cons_of_mem _ (List.mem_cons_of_mem _ (List.mem_cons_of_mem _ (List.mem_cons_of_mem _ (List.mem_cons_self ..)))))))) rfl (by decide))) ?_
          clear hk; intro a hk
          have hk2 : Keeps 122 ([(103, .bool false), (102, .bool false), (93, .bool false), (94, .bool false), (85, .bool false), (86, .bool false), (84, .int .u64 ((6 : Nat) : Int)), (6, .int .u64 ((m : Nat) : Int)), (5, .int .u64 ((6 : Nat) : Int)), (0, .pointer (some ⟨gm, 0, none⟩))]) a := by
            refine ⟨hk.1, hk.2.1, fun x hx => hk.2.2 x ?_⟩
            rcases List.mem_cons.1 hx with rfl | hx
            · exact List.mem_cons_self ..
            rcases List.mem_cons.1 hx with rfl | hx
            · exact List.mem_cons_of_mem _ (List.mem_cons_of_mem _ (List.mem_cons_self ..))
            rcases List.mem_cons.1 hx with rfl | hx
            · exact List.mem_cons_of_mem _ (List.mem_cons_of_mem _ (List.mem_cons_of_mem _ (List.mem_cons_self ..)))
            rcases List.mem_cons.1 hx with rfl | hx
            · exact List.mem_cons_of_mem _ (List.mem_cons_of_mem _ (List.mem_cons_of_mem _ (List.mem_cons_of_mem _ (List.mem_cons_self ..))))
            rcases List.mem_cons.1 hx with rfl | hx
            · exact List.mem_cons_of_mem _ (List.mem_cons_of_mem _ (List.mem_cons_of_mem _ (List.mem_cons_of_mem _ (List.mem_cons_of_mem _ (List.mem_cons_self ..)))))
            rcases List.mem_cons.1 hx with rfl | hx
            · exact List.mem_cons_of_mem _ (List.mem_cons_of_mem _ (List.mem_cons_of_mem _ (List.mem_cons_of_mem _ (List.mem_cons_of_mem _ (List.mem_cons_of_mem _ (List.mem_cons_self ..))))))
            rcases List.mem_cons.1 hx with rfl | hx
            · exact List.mem_cons_of_mem _ (List.mem_cons_of_mem _ (List.mem_cons_of_mem _ (List.mem_cons_of_mem _ (List.mem_cons_of_mem _ (List.mem_cons_of_mem _ (List.mem_cons_of_mem _ (List.mem_cons_self ..)))))))
            rcases List.mem_cons.1 hx with rfl | hx
            · exact List.mem_cons_of_mem _ (List.mem_cons_of_mem _ (List.mem_cons_of_mem _ (List.mem_cons_of_mem _ (List.mem_cons_of_mem _ (List.mem_cons_of_mem _ (List.mem_cons_of_mem _ (List.mem_cons_of_mem _ (List.mem_cons_self ..))))))))
            rcases List.mem_cons.1 hx with rfl | hx
            · exact List.mem_cons_of_mem _ (List.mem_cons_of_mem _ (List.mem_cons_of_mem _ (List.mem_cons_of_mem _ (List.mem_cons_of_mem _ (List.mem_cons_of_mem _ (List.mem_cons_of_mem _ (List.mem_cons_of_mem _ (List.mem_cons_of_mem _ (List.mem_cons_self ..)))))))))
            rcases List.mem_cons.1 hx with rfl | hx
            · exact List.mem_cons_of_mem _ (List.mem_cons_of_mem _ (List.mem_cons_of_mem _ (List.mem_cons_of_mem _ (List.mem_cons_of_mem _ (List.mem_cons_of_mem _ (List.mem_cons_of_mem _ (List.mem_cons_of_mem _ (List.mem_cons_of_mem _ (List.mem_cons_of_mem _ (List.mem_cons_self ..))))))))))
            cases hx
          clear hk
          have hk := hk2
          clear hk2
          refine list_k rfl rfl hk (by decide) (by repeat' (first | exact far_nil _ | refine far_cons (by decide) ?_)) (v := .bool false) (do_assign rfl (hk.at (List.mem_cons_self ..))) ?_
          clear hk; intro a hk
          refine hJ3 _ _ (wp_cond_false (hk.at (List.mem_cons_self ..)) ?_)
          refine wp_seq_k fun J5 hJ5 => ?_
          refine wp_seq_k fun J6 hJ6 => ?_
          refine wp_region_lit ?_
          refine list_k rfl rfl hk (by decide) (by repeat' (first | exact far_nil _ | refine far_cons (by decide) ?_)) (v := .bool false) ((do_eqlF (m := 6) (n := 5) rfl Try.underlying71 (hk.at (List.mem_cons_of_mem _ (List.mem_cons_of_mem _ (List.mem_cons_of_mem _ (List.mem_cons_of_mem _ (List.mem_cons_of_mem _ (List.mem_cons_of_mem _ (List.mem_cons_of_mem _ (List.mem_cons_self ..))))))))) rfl (by decide))) ?_
          clear hk; intro a hk
          refine list_k rfl rfl hk (by decide) (by repeat' (first | exact far_nil _ | refine far_cons (by decide) ?_)) (v := .bool false) (do_assign rfl (hk.at (List.mem_cons_self ..))) ?_
          clear hk; intro a hk
          refine hJ6 _ _ (wp_cond_false (hk.at (List.mem_cons_self ..)) ?_)
          refine wp_seq_k fun J7 hJ7 => ?_
          refine wp_region_lit ?_
          refine list_k rfl rfl hk (by decide) (by repeat' (first | exact far_nil _ | refine far_cons (by decide) ?_)) (v := .bool true) ((do_eqlT (m := 6) (n := 6) rfl Try.underlying71 (hk.at (List.mem_cons_of_mem _ (List.mem_cons_of_mem _ (List.mem_cons_of_mem _ (List.mem_cons_of_mem _ (List.mem_cons_of_mem _ (List.mem_cons_of_mem _ (List.mem_cons_of_mem _ (List.mem_cons_of_mem _ (List.mem_cons_of_mem _ (List.mem_cons_self ..))))))))))) rfl (by decide))) ?_
          clear hk; intro a hk
          have hk2 : Keeps 122 ([(112, .bool true), (111, .bool false), (101, .bool false), (103, .bool false), (102, .bool false), (93, .bool false), (94, .bool false), (85, .bool false), (86, .bool false), (84, .int .u64 ((6 : Nat) : Int)), (6, .int .u64 ((m : Nat) : Int)), (5, .int .u64 ((6 : Nat) : Int)), (0, .pointer (some ⟨gm, 0, none⟩))]) a := by
            refine ⟨hk.1, hk.2.1, fun x hx => hk.2.2 x ?_⟩
            rcases List.mem_cons.1 hx with rfl | hx
            · exact List.mem_cons_self ..
            rcases List.mem_cons.1 hx with rfl | hx
            · exact List.mem_cons_of_mem _ (List.mem_cons_of_mem _ (List.mem_cons_self ..))
            rcases List.mem_cons.1 hx with rfl | hx
            · exact List.mem_cons_of_mem _ (List.mem_cons_of_mem _ (List.mem_cons_of_mem _ (List.mem_cons_self ..)))
            rcases List.mem_cons.1 hx with rfl | hx
            · exact List.mem_cons_of_mem _ (List.mem_cons_of_mem _ (List.mem_cons_of_mem _ (List.mem_cons_of_mem _ (List.mem_cons_self ..))))
            rcases List.mem_cons.1 hx with rfl | hx
            · exact List.mem_cons_of_mem _ (List.mem_cons_of_mem _ (List.mem_cons_of_mem _ (List.mem_cons_of_mem _ (List.mem_cons_of_mem _ (List.mem_cons_self ..)))))
            rcases List.mem_cons.1 hx with rfl | hx
            · exact List.mem_cons_of_mem _ (List.mem_cons_of_mem _ (List.mem_cons_of_mem _ (List.mem_cons_of_mem _ (List.mem_cons_of_mem _ (List.mem_cons_of_mem _ (List.mem_cons_self ..))))))
            rcases List.mem_cons.1 hx with rfl | hx
            · exact List.mem_cons_of_mem _ (List.mem_cons_of_mem _ (List.mem_cons_of_mem _ (List.mem_cons_of_mem _ (List.mem_cons_of_mem _ (List.mem_cons_of_mem _ (List.mem_cons_of_mem _ (List.mem_cons_self ..)))))))
            rcases List.mem_cons.1 hx with rfl | hx
            · exact List.mem_cons_of_mem _ (List.mem_cons_of_mem _ (List.mem_cons_of_mem _ (List.mem_cons_of_mem _ (List.mem_cons_of_mem _ (List.mem_cons_of_mem _ (List.mem_cons_of_mem _ (List.mem_cons_of_mem _ (List.mem_cons_self ..))))))))
            rcases List.mem_cons.1 hx with rfl | hx
            · exact List.mem_cons_of_mem _ (List.mem_cons_of_mem _ (List.mem_cons_of_mem _ (List.mem_cons_of_mem _ (List.mem_cons_of_mem _ (List.mem_cons_of_mem _ (List.mem_cons_of_mem _ (List.mem_cons_of_mem _ (List.mem_cons_of_mem _ (List.mem_cons_self ..)))))))))
            rcases List.mem_cons.1 hx with rfl | hx
            · exact List.mem_cons_of_mem _ (List.mem_cons_of_mem _ (List.mem_cons_of_mem _ (List.mem_cons_of_mem _ (List.mem_cons_of_mem _ (List.mem_cons_of_mem _ (List.mem_cons_of_mem _ (List.mem_cons_of_mem _ (List.mem_cons_of_mem _ (List.mem_cons_of_mem _ (List.mem_cons_self ..))))))))))
            rcases List.mem_cons.1 hx with rfl | hx
            · exact List.mem_cons_of_mem _ (List.mem_cons_of_mem _ (List.mem_cons_of_mem _ (List.mem_cons_of_mem _ (List.mem_cons_of_mem _ (List.mem_cons_of_mem _ (List.mem_cons_of_mem _ (List.mem_cons_of_mem _ (List.mem_cons_of_mem _ (List.mem_cons_of_mem _ (List.mem_cons_of_mem _ (List.mem_cons_self ..)))))))))))
            rcases List.mem_cons.1 hx with rfl | hx
            · exact List.mem_cons_of_mem _ (List.mem_cons_of_mem _ (List.mem_cons_of_mem _ (List.mem_cons_of_mem _ (List.mem_cons_of_mem _ (List.mem_cons_of_mem _ (List.mem_cons_of_mem _ (List.mem_cons_of_mem _ (List.mem_cons_of_mem _ (List.mem_cons_of_mem _ (List.mem_cons_of_mem _ (List.mem_cons_of_mem _ (List.mem_cons_self ..))))))))))))
            rcases List.mem_cons.1 hx with rfl | hx
            · exact List.mem_cons_of_mem _ (List.mem_cons_of_mem _ (List.mem_cons_of_mem _ (List.mem_cons_of_mem _ (List.mem_cons_of_mem _ (List.mem_cons_of_mem _ (List.mem_cons_of_mem _ (List.mem_cons_of_mem _ (List.mem_cons_of_mem _ (List.mem_cons_of_mem _ (List.mem_cons_of_mem _ (List.mem_cons_of_mem _ (List.mem_cons_of_mem _ (List.mem_cons_self ..)))))))))))))
            cases hx
          clear hk
          have hk := hk2
          clear hk2
          refine list_k rfl rfl hk (by decide) (by repeat' (first | exact far_nil _ | refine far_cons (by decide) ?_)) (v := .bool true) (do_assign rfl (hk.at (List.mem_cons_self ..))) ?_
          clear hk; intro a hk
          refine hJ7 _ _ (wp_cond_true (hk.at (List.mem_cons_self ..)) ?_)
          refine wp_skip (hJ5 _ _ (wp_cond_true (hk.at (List.mem_cons_self ..)) ?_))
          refine wp_region_lit ?_
          refine list_k rfl rfl hk (by decide) (by repeat' (first | exact far_nil _ | refine far_cons (by decide) ?_)) (v := .pointer (some ⟨gm, 0, none⟩)) (do_move rfl (hk.at (List.mem_cons_of_mem _ (List.mem_cons_of_mem _ (List.mem_cons_of_mem _ (List.mem_cons_of_mem _ (List.mem_cons_of_mem _ (List.mem_cons_of_mem _ (List.mem_cons_of_mem _ (List.mem_cons_of_mem _ (List.mem_cons_of_mem _ (List.mem_cons_of_mem _ (List.mem_cons_of_mem _ (List.mem_cons_of_mem _ (List.mem_cons_of_mem _ (List.mem_cons_self ..)))))))))))))))) ?_
          clear hk; intro a hk
          refine list_k rfl rfl hk (by decide) (by repeat' (first | exact far_nil _ | refine far_cons (by decide) ?_)) (v := .pointer (some ⟨gm, 0, none⟩)) (do_nilc rfl (hk.at (List.mem_cons_self ..))) ?_
          clear hk; intro a hk
          refine list_k rfl rfl hk (by decide) (by repeat' (first | exact far_nil _ | refine far_cons (by decide) ?_)) (v := .pointer (some ⟨gm, 5, none⟩)) (do_fld56_4 rfl (hk.at (List.mem_cons_self ..))) ?_
          clear hk; intro a hk
          refine list_k rfl rfl hk (by decide) (by repeat' (first | exact far_nil _ | refine far_cons (by decide) ?_)) (v := .slice (some ⟨gm, 5, none⟩) 8 8) ((do_arrH (h := 8) rfl Try.underlying52 (by kernel_rfl) (hk.at (List.mem_cons_self ..)) rfl (by decide))) ?_
          clear hk; intro a hk
          refine wp_call rfl (do_call1 rfl (hk.at (List.mem_cons_self ..)) (le64_enter _)) (leUint64_ok gm 5 8 8 (rt.take 8) _ (rdTake b3 hl3 8 (by decide)) (by rw [List.length_take, hl3]; rfl) (by decide)) ?_
          rintro e w4 ⟨rfl, rfl⟩
          refine ⟨_, rfl, ?_⟩
          refine keep_k (v := .int .u64 ((num (rt.take 8).reverse : Nat) : Int)) hk (by decide) (by repeat' (first | exact far_nil _ | refine far_cons (by decide) ?_)) ?_
          clear hk; intro a hk
          refine list_k rfl rfl hk (by decide) (by repeat' (first | exact far_nil _ | refine far_cons (by decide) ?_)) (v := .int .u64 ((num (rt.take 8).reverse : Nat) : Int)) (do_assign rfl (hk.at (List.mem_cons_self ..))) ?_
          clear hk; intro a hk
          refine ⟨rfl, rfl, ?_⟩
          have e : num (rt.take 8).reverse = tv 6 rt := rfl
          rw [e] at hk
          exact hk.sub (fun x hx => by simp at hx ⊢; rcases hx with rfl | rfl | rfl | rfl <;> simp)
    by_cases h0 : v = 0
    case pos =>
      refine wp_region_lit ?_
      refine list_k rfl rfl hk (by decide) (by repeat' (first | exact far_nil _ | refine far_cons (by decide) ?_)) (v := .int .u64 ((v : Nat) : Int)) (do_move rfl (hk.at (List.mem_cons_of_mem _ (List.mem_cons_of_mem _ (List.mem_cons_self ..))))) ?_
      clear hk; intro a hk
      refine list_k rfl rfl hk (by decide) (by repeat' (first | exact far_nil _ | refine far_cons (by decide) ?_)) (v := .bool true) ((do_eqlT (n := 0) rfl Try.underlying24 (hk.at (List.mem_cons_self ..)) rfl h0)) ?_
      clear hk; intro a hk
      refine list_k rfl rfl hk (by decide) (by repeat' (first | exact far_nil _ | refine far_cons (by decide) ?_)) (v := .bool true) (do_move rfl (hk.at (List.mem_cons_self ..))) ?_
      clear hk; intro a hk
      refine list_off rfl rfl rfl (hk.at (List.mem_cons_self ..)) rfl hk (by decide) (by repeat' (first | exact far_nil _ | refine far_cons (by decide) ?_)) ?_
      clear hk; intro a hk
      refine list_off rfl rfl rfl (hk.at (List.mem_cons_of_mem _ (List.mem_cons_self ..))) rfl hk (by decide) (by repeat' (first | exact far_nil _ | refine far_cons (by decide) ?_)) ?_
      clear hk; intro a hk
      refine list_off rfl rfl rfl (hk.at (List.mem_cons_of_mem _ (List.mem_cons_of_mem _ (List.mem_cons_self ..)))) rfl hk (by decide) (by repeat' (first | exact far_nil _ | refine far_cons (by decide) ?_)) ?_
      clear hk; intro a hk
      refine list_off rfl rfl rfl (hk.at (List.mem_cons_of_mem _ (List.mem_cons_of_mem _ (List.mem_cons_of_mem _ (List.mem_cons_self ..))))) rfl hk (by decide) (by repeat' (first | exact far_nil _ | refine far_cons (by decide) ?_)) ?_
      clear hk; intro a hk
      refine list_off rfl rfl rfl (hk.at (List.mem_cons_of_mem _ (List.mem_cons_of_mem _ (List.mem_cons_of_mem _ (List.mem_cons_of_mem _ (List.mem_cons_self ..)))))) rfl hk (by decide) (by repeat' (first | exact far_nil _ | refine far_cons (by decide) ?_)) ?_
      clear hk; intro a hk
      refine list_off rfl rfl rfl (hk.at (List.mem_cons_of_mem _ (List.mem_cons_of_mem _ (List.mem_cons_of_mem _ (List.mem_cons_of_mem _ (List.mem_cons_of_mem _ (List.mem_cons_self ..))))))) rfl hk (by decide) (by repeat' (first | exact far_nil _ | refine far_cons (by decide) ?_)) ?_
      clear hk; intro a hk
      refine list_k rfl rfl hk (by decide) (by repeat' (first | exact far_nil _ | refine far_cons (by decide) ?_)) (v := .bool true) (do_pickT rfl (hk.at (List.mem_cons_of_mem _ (List.mem_cons_of_mem _ (List.mem_cons_of_mem _ (List.mem_cons_of_mem _ (List.mem_cons_of_mem _ (List.mem_cons_of_mem _ (List.mem_cons_self ..)))))))) rfl) ?_
      clear hk; intro a hk
      refine hK6 _ _ (wp_cond_true (hk.at (List.mem_cons_self ..)) (wp_skip (HK5 _ (hk.sub (fun x hx => by simp at hx ⊢; rcases hx with rfl | rfl | rfl <;> simp)))))
    case neg =>
      refine wp_region_lit ?_
      refine list_k rfl rfl hk (by decide) (by repeat' (first | exact far_nil _ | refine far_cons (by decide) ?_)) (v := .int .u64 ((v : Nat) : Int)) (do_move rfl (hk.at (List.mem_cons_of_mem _ (List.mem_cons_of_mem _ (List.mem_cons_self ..))))) ?_
      clear hk; intro a hk
      refine list_k rfl rfl hk (by decide) (by repeat' (first | exact far_nil _ | refine far_cons (by decide) ?_)) (v := .bool false) ((do_eqlF (n := 0) rfl Try.underlying24 (hk.at (List.mem_cons_self ..)) rfl (by omega))) ?_
      clear hk; intro a hk
      refine list_k rfl rfl hk (by decide) (by repeat' (first | exact far_nil _ | refine far_cons (by decide) ?_)) (v := .bool false) (do_move rfl (hk.at (List.mem_cons_self ..))) ?_
      clear hk; intro a hk
      refine list_on rfl rfl rfl (hk.at (List.mem_cons_self ..)) rfl hk (by decide) (by repeat' (first | exact far_nil _ | refine far_cons (by decide) ?_)) (v := .int .u64 ((v : Nat) : Int)) (do_move rfl (hk.at (List.mem_cons_of_mem _ (List.mem_cons_of_mem _ (List.mem_cons_of_mem _ (List.mem_cons_of_mem _ (List.mem_cons_of_mem _ (List.mem_cons_self ..)))))))) ?_
      clear hk; intro a hk
      refine list_on rfl rfl rfl (hk.at (List.mem_cons_of_mem _ (List.mem_cons_self ..))) rfl hk (by decide) (by repeat' (first | exact far_nil _ | refine far_cons (by decide) ?_)) (v := .pointer (some ⟨gm, 0, none⟩)) (do_move rfl (hk.at (List.mem_cons_of_mem _ (List.mem_cons_of_mem _ (List.mem_cons_of_mem _ (List.mem_cons_of_mem _ (List.mem_cons_of_mem _ (List.mem_cons_of_mem _ (List.mem_cons_of_mem _ (List.mem_cons_self ..)))))))))) ?_
      clear hk; intro a hk
      refine list_on rfl rfl rfl (hk.at (List.mem_cons_of_mem _ (List.mem_cons_of_mem _ (List.mem_cons_self ..)))) rfl hk (by decide) (by repeat' (first | exact far_nil _ | refine far_cons (by decide) ?_)) (v := .pointer (some ⟨gm, 0, none⟩)) (do_nilc rfl (hk.at (List.mem_cons_self ..))) ?_
      clear hk; intro a hk
      refine list_on rfl rfl rfl (hk.at (List.mem_cons_of_mem _ (List.mem_cons_of_mem _ (List.mem_cons_of_mem _ (List.mem_cons_self ..))))) rfl hk (by decide) (by repeat' (first | exact far_nil _ | refine far_cons (by decide) ?_)) (v := .pointer (some ⟨gm, 2, none⟩)) (do_fld56_2 rfl (hk.at (List.mem_cons_self ..))) ?_
      clear hk; intro a hk
      refine list_on rfl rfl rfl (hk.at (List.mem_cons_of_mem _ (List.mem_cons_of_mem _ (List.mem_cons_of_mem _ (List.mem_cons_of_mem _ (List.mem_cons_self ..)))))) rfl hk (by decide) (by repeat' (first | exact far_nil _ | refine far_cons (by decide) ?_)) (v := .int .u64 ((inc : Nat) : Int)) (do_ldB rfl Try.underlying24 rfl (hk.at (List.mem_cons_self ..)) hB rfl) ?_
      clear hk; intro a hk
      refine list_on rfl rfl rfl (hk.at (List.mem_cons_of_mem _ (List.mem_cons_of_mem _ (List.mem_cons_of_mem _ (List.mem_cons_of_mem _ (List.mem_cons_of_mem _ (List.mem_cons_self ..))))))) rfl hk (by decide) (by repeat' (first | exact far_nil _ | refine far_cons (by decide) ?_)) (v := .bool true) (do_geqT rfl Try.underlying24 (hk.at (List.mem_cons_of_mem _ (List.mem_cons_of_mem _ (List.mem_cons_of_mem _ (List.mem_cons_of_mem _ (List.mem_cons_self ..)))))) (hk.at (List.mem_cons_self ..)) (by omega)) ?_
      clear hk; intro a hk
      refine list_k rfl rfl hk (by decide) (by repeat' (first | exact far_nil _ | refine far_cons (by decide) ?_)) (v := .bool true) (do_pickF rfl (hk.at (List.mem_cons_of_mem _ (List.mem_cons_of_mem _ (List.mem_cons_of_mem _ (List.mem_cons_of_mem _ (List.mem_cons_of_mem _ (List.mem_cons_of_mem _ (List.mem_cons_self ..)))))))) (hk.at (List.mem_cons_self ..))) ?_
      clear hk; intro a hk
      refine hK6 _ _ (wp_cond_true (hk.at (List.mem_cons_self ..)) (wp_skip (HK5 _ (hk.sub (fun x hx => by simp at hx ⊢; rcases hx with rfl | rfl | rfl <;> simp)))))
  clear hK1
  refine wp_region_lit ?_
  refine list_k rfl rfl hk (by decide) (by repeat' (first | exact far_nil _ | refine far_cons (by decide) ?_)) (v := .int .u64 ((q % 8 : Nat) : Int)) (do_move rfl (hk.at (List.mem_cons_self ..))) ?_
  clear hk; intro a hk
  refine list_k rfl rfl hk (by decide) (by repeat' (first | exact far_nil _ | refine far_cons (by decide) ?_)) (v := .bool (decide (q % 8 = 0))) (do_eql rfl Try.underlying71 (hk.at (List.mem_cons_self ..)) rfl) ?_
  clear hk; intro a hk
  refine hK2 _ _ (wp_cond (hk.at (List.mem_cons_self ..)) ?_)
  clear hK2
  have hk2 : Keeps 122 ([(6, .int .u64 ((q % 8 : Nat) : Int)), (5, .int .u64 ((bl : Nat) : Int)), (2, .int .u64 0), (0, .pointer (some ⟨gm, 0, none⟩))]) a := by
    refine ⟨hk.1, hk.2.1, fun x hx => hk.2.2 x ?_⟩
    rcases List.mem_cons.1 hx with rfl | hx
    · exact List.mem_cons_of_mem _ (List.mem_cons_of_mem _ (List.mem_cons_self ..))
    rcases List.mem_cons.1 hx with rfl | hx
    · exact List.mem_cons_of_mem _ (List.mem_cons_of_mem _ (List.mem_cons_of_mem _ (List.mem_cons_self ..)))
    rcases List.mem_cons.1 hx with rfl | hx
    · exact List.mem_cons_of_mem _ (List.mem_cons_of_mem _ (List.mem_cons_of_mem _ (List.mem_cons_of_mem _ (List.mem_cons_self ..))))
    rcases List.mem_cons.1 hx with rfl | hx
    · exact List.mem_cons_of_mem _ (List.mem_cons_of_mem _ (List.mem_cons_of_mem _ (List.mem_cons_of_mem _ (List.mem_cons_of_mem _ (List.mem_cons_self ..)))))
    cases hx
  clear hk
  have hk := hk2
  clear hk2
  by_cases hm : q % 8 = 0
  case pos =>
    rw [decide_eq_true hm]
    refine wp_region_lit ?_
    have hk2 : Keeps 122 ([(5, .int .u64 ((bl : Nat) : Int)), (2, .int .u64 0), (0, .pointer (some ⟨gm, 0, none⟩))]) a := by
      refine ⟨hk.1, hk.2.1, fun x hx => hk.2.2 x ?_⟩
      rcases List.mem_cons.1 hx with rfl | hx
      · exact List.mem_cons_of_mem _ (List.mem_cons_self ..)
      rcases List.mem_cons.1 hx with rfl | hx
      · exact List.mem_cons_of_mem _ (List.mem_cons_of_mem _ (List.mem_cons_self ..))
      rcases List.mem_cons.1 hx with rfl | hx
      · exact List.mem_cons_of_mem _ (List.mem_cons_of_mem _ (List.mem_cons_of_mem _ (List.mem_cons_self ..)))
      cases hx
    clear hk
    have hk := hk2
    clear hk2
    refine list_k rfl rfl hk (by decide) (by repeat' (first | exact far_nil _ | refine far_cons (by decide) ?_)) (v := .int .u64 8) (do_assign rfl rfl) ?_
    clear hk; intro a hk
    exact HK _ 8 (hk.sub (fun x hx => by simp at hx ⊢; rcases hx with rfl | rfl | rfl | rfl <;> simp)) (by decide) (by decide)
  case neg =>
    rw [decide_eq_false hm]
    exact wp_skip (HK _ (q % 8) (hk.sub (fun x hx => by simp at hx ⊢; rcases hx with rfl | rfl | rfl | rfl <;> simp)) (by omega) (by omega))
end Go.Proofs.Ytcojcohipmoopaa
