/- Contract of math/bits.Len64. -/
import Derived.Test.YtcojcohipmoopaaMU80
import Derived.Lib.BitFns
import Derived.Lib.ItoaNum
namespace Go.Proofs.Ytcojcohipmoopaa
open Go.RowKit
set_option linter.unusedVariables false
set_option linter.unusedSimpArgs false
section
variable {a : Act} {w : World} {o : Oper} {x y : Operand}
theorem do_sh64_32 {u : TypeId} (ho : o.op = .binOp .shr 24 x (.const (.int .u64 32)) u) {v : Nat} (hx : a.eval x = .int .u64 (v : Int)) : (execOp a.eval o).run Try.prog w = .ok (.value (.int .u64 ((v / 4294967296 : Nat) : Int))) w := by
  have hc : a.eval (.const (.int .u64 32)) = .int .u64 32 := rfl
  unfold execOp; simp only [ho, hx, hc]; go_simp
theorem do_sh64_16 {u : TypeId} (ho : o.op = .binOp .shr 24 x (.const (.int .u64 16)) u) {v : Nat} (hx : a.eval x = .int .u64 (v : Int)) : (execOp a.eval o).run Try.prog w = .ok (.value (.int .u64 ((v / 65536 : Nat) : Int))) w := by
  have hc : a.eval (.const (.int .u64 16)) = .int .u64 16 := rfl
  unfold execOp; simp only [ho, hx, hc]; go_simp
theorem do_sh64_8 {u : TypeId} (ho : o.op = .binOp .shr 24 x (.const (.int .u64 8)) u) {v : Nat} (hx : a.eval x = .int .u64 (v : Int)) : (execOp a.eval o).run Try.prog w = .ok (.value (.int .u64 ((v / 256 : Nat) : Int))) w := by
  have hc : a.eval (.const (.int .u64 8)) = .int .u64 8 := rfl
  unfold execOp; simp only [ho, hx, hc]; go_simp
theorem do_len8 (ho : o.op = .index 9 (.const (.string Lib.len8tab)) y) {i : Int} (hy : a.eval y = .int .u8 i) (h0 : 0 ≤ i) (h1 : i ≤ 255) : (execOp a.eval o).run Try.prog w = .ok (.value (.int .u8 (Lib.len8 i))) w := by
  have hc : a.eval (.const (.string Lib.len8tab)) = .string Lib.len8tab := rfl
  have hr := Lib.run_index_len8tab (P := Try.prog) (w := w) 9 .u8 i Try.underlying9 h0 h1
  unfold execOp
  simp only [ho, hy, hc, Sem.run_bind, hr, Result.andThen_ok, Sem.run_pure]
theorem do_len8i (ho : o.op = .convert 5 3 x) {n : Nat} (hx : a.eval x = .int .u8 (Lib.len8 ((n : Nat) : Int))) (hn : n < 256) : (execOp a.eval o).run Try.prog w = .ok (.value (.int .i64 ((Lib.bitLen n : Nat) : Int))) w := by
  have e := Lib.len8_of (n : Int) (by omega) (by omega)
  rw [Int.toNat_natCast] at e
  rw [e] at hx
  have hb := Lib.bitLen_le8 ⟨n, hn⟩
  have hw : IntKind.i64.wrap ((Lib.bitLen n : Nat) : Int) = ((Lib.bitLen n : Nat) : Int) := by rw [IntKind.wrap_i64]; simp only at hb; omega
  clear hb e
  generalize Lib.bitLen n = q at *
  unfold execOp; simp only [ho, hx]; go_simp
end
set_option maxRecDepth 100000 in
theorem len64_nat (x : Nat) (w : World) (h1 : x < 18446744073709551616) :
    Calls Try.prog 48 #[.int .u64 (x : Int)] w fun e w' => e = .returned (.int .i64 ((Lib.bitLen x : Nat) : Int)) ∧ w' = w := by
  go_enter Try.func48, Try.ntmps48
  refine of_keeps 25 [(0, .int .u64 ((x : Nat) : Int))] ⟨by kernel_rfl, rfl, fun x hx => by simp at hx; rcases hx with rfl; rfl⟩ fun a hk => ?_
  refine wp_seq_k fun K0 hK0 => ?_
  refine wp_region_lit ?_
  refine list_k rfl rfl hk (by decide) (by repeat' (first | exact far_nil _ | refine far_cons (by decide) ?_)) (v := .int .i64 0) (do_assign rfl rfl) ?_
  clear hk; intro a hk
  refine hK0 _ _ ?_
  clear hK0
  obtain ⟨x0, hx0⟩ : ∃ x0, x0 = x := ⟨_, rfl⟩
  obtain ⟨s0, hs0⟩ : ∃ s0, s0 = 0 := ⟨_, rfl⟩
  have hk2 : Keeps 25 [(2, .int .i64 ((s0 : Nat) : Int)), (0, .int .u64 ((x0 : Nat) : Int))] a := by rw [hx0, hs0]; exact hk
  clear hk
  have hk := hk2
  clear hk2
  have hb0 : Lib.bitLen x = s0 + Lib.bitLen x0 := by rw [hs0, hx0, Nat.zero_add]
  have hl0 : x0 < 18446744073709551616 := by omega
  have ht0 : s0 ≤ 0 := by omega
  clear hx0 hs0
  refine wp_seq_k fun K1 hK1 => ?_
  have HK1 : ∀ (a : Act) (x1 s1 : Nat), Keeps 25 [(2, .int .i64 ((s1 : Nat) : Int)), (0, .int .u64 ((x1 : Nat) : Int))] a → Lib.bitLen x = s1 + Lib.bitLen x1 → x1 < 4294967296 → s1 ≤ 32 → K1 a w := by
    intro a x1 s1 hk hb1 hl1 ht1
    refine hK1 _ _ ?_
    clear hK1
    refine wp_seq_k fun K2 hK2 => ?_
    have HK2 : ∀ (a : Act) (x2 s2 : Nat), Keeps 25 [(2, .int .i64 ((s2 : Nat) : Int)), (0, .int .u64 ((x2 : Nat) : Int))] a → Lib.bitLen x = s2 + Lib.bitLen x2 → x2 < 65536 → s2 ≤ 48 → K2 a w := by
      intro a x2 s2 hk hb2 hl2 ht2
      refine hK2 _ _ ?_
      clear hK2
      refine wp_seq_k fun K3 hK3 => ?_
      have HK3 : ∀ (a : Act) (x3 s3 : Nat), Keeps 25 [(2, .int .i64 ((s3 : Nat) : Int)), (0, .int .u64 ((x3 : Nat) : Int))] a → Lib.bitLen x = s3 + Lib.bitLen x3 → x3 < 256 → s3 ≤ 56 → K3 a w := by
        intro a x3 s3 hk hb3 hl3 ht3
        refine hK3 _ _ ?_
        clear hK3
        refine wp_seq_k fun K9 hK9 => ?_
        refine wp_region_lit ?_
        refine list_k rfl rfl hk (by decide) (by repeat' (first | exact far_nil _ | refine far_cons (by decide) ?_)) (v := .int .i64 ((s3 : Nat) : Int)) (do_move rfl (hk.at (List.mem_cons_self ..))) ?_
        clear hk; intro a hk
        refine list_k rfl rfl hk (by decide) (by repeat' (first | exact far_nil _ | refine far_cons (by decide) ?_)) (v := .int .u64 ((x3 : Nat) : Int)) (do_move rfl (hk.at (List.mem_cons_of_mem _ (List.mem_cons_of_mem _ (List.mem_cons_self ..))))) ?_
        clear hk; intro a hk
        refine list_k rfl rfl hk (by decide) (by repeat' (first | exact far_nil _ | refine far_cons (by decide) ?_)) (v := .int .u8 ((x3 : Nat) : Int)) (do_cvtN rfl Try.underlying24 Try.underlying5 (hk.at (List.mem_cons_self ..)) (by rw [IntKind.wrap_u8]; omega)) ?_
        clear hk; intro a hk
        refine list_k rfl rfl hk (by decide) (by repeat' (first | exact far_nil _ | refine far_cons (by decide) ?_)) (v := .int .u8 (Lib.len8 ((x3 : Nat) : Int))) (do_len8 rfl (hk.at (List.mem_cons_self ..)) (by omega) (by omega)) ?_
        clear hk; intro a hk
        refine list_k rfl rfl hk (by decide) (by repeat' (first | exact far_nil _ | refine far_cons (by decide) ?_)) (v := .int .i64 ((Lib.bitLen x3 : Nat) : Int)) (do_len8i rfl (hk.at (List.mem_cons_self ..)) hl3) ?_
        clear hk; intro a hk
        refine list_k rfl rfl hk (by decide) (by repeat' (first | exact far_nil _ | refine far_cons (by decide) ?_)) (v := .int .i64 ((s3 + Lib.bitLen x3 : Nat) : Int)) (do_addN rfl Try.underlying3 (hk.at (List.mem_cons_of_mem _ (List.mem_cons_of_mem _ (List.mem_cons_of_mem _ (List.mem_cons_of_mem _ (List.mem_cons_self ..)))))) (hk.at (List.mem_cons_self ..)) (by rw [IntKind.wrap_i64]; have := Lib.bitLen_le8 ⟨x3, hl3⟩; simp only at this; omega)) ?_
        clear hk; intro a hk
        have hk2 : Keeps 25 ([(24, .int .i64 ((s3 + Lib.bitLen x3 : Nat) : Int)), (23, .int .i64 ((Lib.bitLen x3 : Nat) : Int)), (22, .int .u8 (Lib.len8 ((x3 : Nat) : Int))), (21, .int .u8 ((x3 : Nat) : Int)), (20, .int .u64 ((x3 : Nat) : Int)), (19, .int .i64 ((s3 : Nat) : Int)), (0, .int .u64 ((x3 : Nat) : Int))]) a := by
          refine ⟨hk.1, hk.2.1, fun x hx => hk.2.2 x ?_⟩
          rcases List.mem_cons.1 hx with rfl | hx
          · exact List.mem_cons_self ..
          rcases List.mem_cons.1 hx with rfl | hx
          · exact List.mem_cons_of_mem _ (List.mem_cons_self ..)
          rcases List.mem_cons.1 hx with rfl | hx
          · exact List.mem_cons_of_mem _ (List.mem_cons_of_mem _ (List.mem_cons_self ..))
          rcases List.mem_cons.1 hx with rfl | hx
          · exact List.mem_cons_of_mem _ (List.mem_cons_of_mem _ (List.mem_cons_of_mem _ (List.mem_cons_self ..)))
          rcases List.mem_cons.1 hx with rfl | hx
          · exact List.mem_cons_of_mem _ (List.mem_cons_of_mem _ (List.mem_cons_of_mem _ (List.mem_cons_of_mem _ (List.mem_cons_self ..))))
          rcases List.mem_cons.1 hx with rfl | hx
          · exact List.mem_cons_of_mem _ (List.mem_cons_of_mem _ (List.mem_cons_of_mem _ (List.mem_cons_of_mem _ (List.mem_cons_of_mem _ (List.mem_cons_self ..)))))
          rcases List.mem_cons.1 hx with rfl | hx
          · exact List.mem_cons_of_mem _ (List.mem_cons_of_mem _ (List.mem_cons_of_mem _ (List.mem_cons_of_mem _ (List.mem_cons_of_mem _ (List.mem_cons_of_mem _ (List.mem_cons_of_mem _ (List.mem_cons_self ..)))))))
          cases hx
        clear hk
        have hk := hk2
        clear hk2
        refine list_k rfl rfl hk (by decide) (by repeat' (first | exact far_nil _ | refine far_cons (by decide) ?_)) (v := .int .i64 ((s3 + Lib.bitLen x3 : Nat) : Int)) (do_assign rfl (hk.at (List.mem_cons_self ..))) ?_
        clear hk; intro a hk
        refine hK9 _ _ (wp_ret ?_)
        refine ret_tmp1 (t := 2) rfl hk.2.1 (hk.at (List.mem_cons_self ..)) ?_
        rw [← hb3]
        exact ⟨rfl, rfl⟩
      clear hK3
      refine wp_seq_k fun J3 hJ3 => ?_
      refine wp_region_lit ?_
      refine list_k rfl rfl hk (by decide) (by repeat' (first | exact far_nil _ | refine far_cons (by decide) ?_)) (v := .int .u64 ((x2 : Nat) : Int)) (do_move rfl (hk.at (List.mem_cons_of_mem _ (List.mem_cons_self ..)))) ?_
      clear hk; intro a hk
      refine list_k rfl rfl hk (by decide) (by repeat' (first | exact far_nil _ | refine far_cons (by decide) ?_)) (v := .bool (decide (256 ≤ x2))) (do_geq rfl Try.underlying24 (hk.at (List.mem_cons_self ..)) rfl) ?_
      clear hk; intro a hk
      refine hJ3 _ _ (wp_cond (hk.at (List.mem_cons_self ..)) ?_)
      clear hJ3
      have hk2 : Keeps 25 ([(2, .int .i64 ((s2 : Nat) : Int)), (0, .int .u64 ((x2 : Nat) : Int))]) a := by
        refine ⟨hk.1, hk.2.1, fun x hx => hk.2.2 x ?_⟩
        rcases List.mem_cons.1 hx with rfl | hx
        · exact List.mem_cons_of_mem _ (List.mem_cons_of_mem _ (List.mem_cons_self ..))
        rcases List.mem_cons.1 hx with rfl | hx
        · exact List.mem_cons_of_mem _ (List.mem_cons_of_mem _ (List.mem_cons_of_mem _ (List.mem_cons_self ..)))
        cases hx
      clear hk
      have hk := hk2
      clear hk2
      have hk2 : Keeps 25 [(2, .int .i64 ((s2 : Nat) : Int)), (0, .int .u64 ((x2 : Nat) : Int))] a := hk.sub (fun x hx => by simp at hx ⊢; rcases hx with rfl | rfl <;> simp)
      clear hk
      have hk := hk2
      clear hk2
      by_cases hc : 256 ≤ x2
      case neg =>
        rw [decide_eq_false hc]
        exact wp_skip (HK3 _ _ _ hk hb2 (by omega) (by omega))
      case pos =>
        rw [decide_eq_true hc]
        refine wp_seq_k fun I3 hI3 => ?_
        refine wp_region_lit ?_
        refine list_k rfl rfl hk (by decide) (by repeat' (first | exact far_nil _ | refine far_cons (by decide) ?_)) (v := .int .u64 ((x2 : Nat) : Int)) (do_move rfl (hk.at (List.mem_cons_of_mem _ (List.mem_cons_self ..)))) ?_
        clear hk; intro a hk
        refine list_k rfl rfl hk (by decide) (by repeat' (first | exact far_nil _ | refine far_cons (by decide) ?_)) (v := .int .u64 ((x2 / 256 : Nat) : Int)) (do_sh64_8 rfl (hk.at (List.mem_cons_self ..))) ?_
        clear hk; intro a hk
        have hk2 : Keeps 25 ([(16, .int .u64 ((x2 / 256 : Nat) : Int)), (15, .int .u64 ((x2 : Nat) : Int)), (2, .int .i64 ((s2 : Nat) : Int))]) a := by
          refine ⟨hk.1, hk.2.1, fun x hx => hk.2.2 x ?_⟩
          rcases List.mem_cons.1 hx with rfl | hx
          · exact List.mem_cons_self ..
          rcases List.mem_cons.1 hx with rfl | hx
          · exact List.mem_cons_of_mem _ (List.mem_cons_self ..)
          rcases List.mem_cons.1 hx with rfl | hx
          · exact List.mem_cons_of_mem _ (List.mem_cons_of_mem _ (List.mem_cons_self ..))
          cases hx
        clear hk
        have hk := hk2
        clear hk2
        refine list_k rfl rfl hk (by decide) (by repeat' (first | exact far_nil _ | refine far_cons (by decide) ?_)) (v := .int .u64 ((x2 / 256 : Nat) : Int)) (do_assign rfl (hk.at (List.mem_cons_self ..))) ?_
        clear hk; intro a hk
        refine hI3 _ _ ?_
        clear hI3
        have hk2 : Keeps 25 ([(0, .int .u64 ((x2 / 256 : Nat) : Int)), (2, .int .i64 ((s2 : Nat) : Int))]) a := by
          refine ⟨hk.1, hk.2.1, fun x hx => hk.2.2 x ?_⟩
          rcases List.mem_cons.1 hx with rfl | hx
          · exact List.mem_cons_self ..
          rcases List.mem_cons.1 hx with rfl | hx
          · exact List.mem_cons_of_mem _ (List.mem_cons_of_mem _ (List.mem_cons_of_mem _ (List.mem_cons_self ..)))
          cases hx
        clear hk
        have hk := hk2
        clear hk2
        refine wp_region_lit ?_
        refine list_k rfl rfl hk (by decide) (by repeat' (first | exact far_nil _ | refine far_cons (by decide) ?_)) (v := .int .i64 ((s2 : Nat) : Int)) (do_move rfl (hk.at (List.mem_cons_of_mem _ (List.mem_cons_self ..)))) ?_
        clear hk; intro a hk
        refine list_k rfl rfl hk (by decide) (by repeat' (first | exact far_nil _ | refine far_cons (by decide) ?_)) (v := .int .i64 ((s2 + 8 : Nat) : Int)) ((do_addN (n := 8) rfl Try.underlying3 (hk.at (List.mem_cons_self ..)) rfl (by rw [IntKind.wrap_i64]; omega))) ?_
        clear hk; intro a hk
        have hk2 : Keeps 25 ([(18, .int .i64 ((s2 + 8 : Nat) : Int)), (17, .int .i64 ((s2 : Nat) : Int)), (0, .int .u64 ((x2 / 256 : Nat) : Int))]) a := by
          refine ⟨hk.1, hk.2.1, fun x hx => hk.2.2 x ?_⟩
          rcases List.mem_cons.1 hx with rfl | hx
          · exact List.mem_cons_self ..
          rcases List.mem_cons.1 hx with rfl | hx
          · exact List.mem_cons_of_mem _ (List.mem_cons_self ..)
          rcases List.mem_cons.1 hx with rfl | hx
          · exact List.mem_cons_of_mem _ (List.mem_cons_of_mem _ (List.mem_cons_self ..))
          cases hx
        clear hk
        have hk := hk2
        clear hk2
        refine list_k rfl rfl hk (by decide) (by repeat' (first | exact far_nil _ | refine far_cons (by decide) ?_)) (v := .int .i64 ((s2 + 8 : Nat) : Int)) (do_assign rfl (hk.at (List.mem_cons_self ..))) ?_
        clear hk; intro a hk
        have hk2 : Keeps 25 ([(2, .int .i64 ((s2 + 8 : Nat) : Int)), (0, .int .u64 ((x2 / 256 : Nat) : Int))]) a := by
          refine ⟨hk.1, hk.2.1, fun x hx => hk.2.2 x ?_⟩
          rcases List.mem_cons.1 hx with rfl | hx
          · exact List.mem_cons_self ..
          rcases List.mem_cons.1 hx with rfl | hx
          · exact List.mem_cons_of_mem _ (List.mem_cons_of_mem _ (List.mem_cons_of_mem _ (List.mem_cons_self ..)))
          cases hx
        clear hk
        have hk := hk2
        clear hk2
        have hsh := Lib.bitLen_shift8 x2 hc (by omega)
        exact HK3 _ (x2 / 256) (s2 + 8) (hk.sub (fun x hx => by simp at hx ⊢; rcases hx with rfl | rfl <;> simp)) (by rw [hb2, hsh]; omega) (by omega) (by omega)
    clear hK2
    refine wp_seq_k fun J2 hJ2 => ?_
    refine wp_region_lit ?_
    refine list_k rfl rfl hk (by decide) (by repeat' (first | exact far_nil _ | refine far_cons (by decide) ?_)) (v := .int .u64 ((x1 : Nat) : Int)) (do_move rfl (hk.at (List.mem_cons_of_mem _ (List.mem_cons_self ..)))) ?_
    clear hk; intro a hk
    refine list_k rfl rfl hk (by decide) (by repeat' (first | exact far_nil _ | refine far_cons (by decide) ?_)) (v := .bool (decide (65536 ≤ x1))) (do_geq rfl Try.underlying24 (hk.at (List.mem_cons_self ..)) rfl) ?_
    clear hk; intro a hk
    refine hJ2 _ _ (wp_cond (hk.at (List.mem_cons_self ..)) ?_)
    clear hJ2
    have hk2 : Keeps 25 ([(2, .int .i64 ((s1 : Nat) : Int)), (0, .int .u64 ((x1 : Nat) : Int))]) a := by
      refine ⟨hk.1, hk.2.1, fun x hx => hk.2.2 x ?_⟩
      rcases List.mem_cons.1 hx with rfl | hx
      · exact List.mem_cons_of_mem _ (List.mem_cons_of_mem _ (List.mem_cons_self ..))
      rcases List.mem_cons.1 hx with rfl | hx
      · exact List.mem_cons_of_mem _ (List.mem_cons_of_mem _ (List.mem_cons_of_mem _ (List.mem_cons_self ..)))
      cases hx
    clear hk
    have hk := hk2
    clear hk2
    have hk2 : Keeps 25 [(2, .int .i64 ((s1 : Nat) : Int)), (0, .int .u64 ((x1 : Nat) : Int))] a := hk.sub (fun x hx => by simp at hx ⊢; rcases hx with rfl | rfl <;> simp)
    clear hk
    have hk := hk2
    clear hk2
    by_cases hc : 65536 ≤ x1
    case neg =>
      rw [decide_eq_false hc]
      exact wp_skip (HK2 _ _ _ hk hb1 (by omega) (by omega))
    case pos =>
      rw [decide_eq_true hc]
      refine wp_seq_k fun I2 hI2 => ?_
      refine wp_region_lit ?_
      refine list_k rfl rfl hk (by decide) (by repeat' (first | exact far_nil _ | refine far_cons (by decide) ?_)) (v := .int .u64 ((x1 : Nat) : Int)) (do_move rfl (hk.at (List.mem_cons_of_mem _ (List.mem_cons_self ..)))) ?_
      clear hk; intro a hk
      refine list_k rfl rfl hk (by decide) (by repeat' (first | exact far_nil _ | refine far_cons (by decide) ?_)) (v := .int .u64 ((x1 / 65536 : Nat) : Int)) (do_sh64_16 rfl (hk.at (List.mem_cons_self ..))) ?_
      clear hk; intro a hk
      have hk2 : Keeps 25 ([(10, .int .u64 ((x1 / 65536 : Nat) : Int)), (9, .int .u64 ((x1 : Nat) : Int)), (2, .int .i64 ((s1 : Nat) : Int))]) a := by
        refine ⟨hk.1, hk.2.1, fun x hx => hk.2.2 x ?_⟩
        rcases List.mem_cons.1 hx with rfl | hx
        · exact List.mem_cons_self ..
        rcases List.mem_cons.1 hx with rfl | hx
        · exact List.mem_cons_of_mem _ (List.mem_cons_self ..)
        rcases List.mem_cons.1 hx with rfl | hx
        · exact List.mem_cons_of_mem _ (List.mem_cons_of_mem _ (List.mem_cons_self ..))
        cases hx
      clear hk
      have hk := hk2
      clear hk2
      refine list_k rfl rfl hk (by decide) (by repeat' (first | exact far_nil _ | refine far_cons (by decide) ?_)) (v := .int .u64 ((x1 / 65536 : Nat) : Int)) (do_assign rfl (hk.at (List.mem_cons_self ..))) ?_
      clear hk; intro a hk
      refine hI2 _ _ ?_
      clear hI2
      have hk2 : Keeps 25 ([(0, .int .u64 ((x1 / 65536 : Nat) : Int)), (2, .int .i64 ((s1 : Nat) : Int))]) a := by
        refine ⟨hk.1, hk.2.1, fun x hx => hk.2.2 x ?_⟩
        rcases List.mem_cons.1 hx with rfl | hx
        · exact List.mem_cons_self ..
        rcases List.mem_cons.1 hx with rfl | hx
        · exact List.mem_cons_of_mem _ (List.mem_cons_of_mem _ (List.mem_cons_of_mem _ (List.mem_cons_self ..)))
        cases hx
      clear hk
      have hk := hk2
      clear hk2
      refine wp_region_lit ?_
      refine list_k rfl rfl hk (by decide) (by repeat' (first | exact far_nil _ | refine far_cons (by decide) ?_)) (v := .int .i64 ((s1 : Nat) : Int)) (do_move rfl (hk.at (List.mem_cons_of_mem _ (List.mem_cons_self ..)))) ?_
      clear hk; intro a hk
      refine list_k rfl rfl hk (by decide) (by repeat' (first | exact far_nil _ | refine far_cons (by decide) ?_)) (v := .int .i64 ((s1 + 16 : Nat) : Int)) ((do_addN (n := 16) rfl Try.underlying3 (hk.at (List.mem_cons_self ..)) rfl (by rw [IntKind.wrap_i64]; omega))) ?_
      clear hk; intro a hk
      have hk2 : Keeps 25 ([(12, .int .i64 ((s1 + 16 : Nat) : Int)), (11, .int .i64 ((s1 : Nat) : Int)), (0, .int .u64 ((x1 / 65536 : Nat) : Int))]) a := by
        refine ⟨hk.1, hk.2.1, fun x hx => hk.2.2 x ?_⟩
        rcases List.mem_cons.1 hx with rfl | hx
        · exact List.mem_cons_self ..
        rcases List.mem_cons.1 hx with rfl | hx
        · exact List.mem_cons_of_mem _ (List.mem_cons_self ..)
        rcases List.mem_cons.1 hx with rfl | hx
        · exact List.mem_cons_of_mem _ (List.mem_cons_of_mem _ (List.mem_cons_self ..))
        cases hx
      clear hk
      have hk := hk2
      clear hk2
      refine list_k rfl rfl hk (by decide) (by repeat' (first | exact far_nil _ | refine far_cons (by decide) ?_)) (v := .int .i64 ((s1 + 16 : Nat) : Int)) (do_assign rfl (hk.at (List.mem_cons_self ..))) ?_
      clear hk; intro a hk
      have hk2 : Keeps 25 ([(2, .int .i64 ((s1 + 16 : Nat) : Int)), (0, .int .u64 ((x1 / 65536 : Nat) : Int))]) a := by
        refine ⟨hk.1, hk.2.1, fun x hx => hk.2.2 x ?_⟩
        rcases List.mem_cons.1 hx with rfl | hx
        · exact List.mem_cons_self ..
        rcases List.mem_cons.1 hx with rfl | hx
        · exact List.mem_cons_of_mem _ (List.mem_cons_of_mem _ (List.mem_cons_of_mem _ (List.mem_cons_self ..)))
        cases hx
      clear hk
      have hk := hk2
      clear hk2
      have hsh := Lib.bitLen_shift16 x1 hc (by omega)
      exact HK2 _ (x1 / 65536) (s1 + 16) (hk.sub (fun x hx => by simp at hx ⊢; rcases hx with rfl | rfl <;> simp)) (by rw [hb1, hsh]; omega) (by omega) (by omega)
  clear hK1
  refine wp_seq_k fun J1 hJ1 => ?_
  refine wp_region_lit ?_
  refine list_k rfl rfl hk (by decide) (by repeat' (first | exact far_nil _ | refine far_cons (by decide) ?_)) (v := .int .u64 ((x0 : Nat) : Int)) (do_move rfl (hk.at (List.mem_cons_of_mem _ (List.mem_cons_self ..)))) ?_
  clear hk; intro a hk
  refine list_k rfl rfl hk (by decide) (by repeat' (first | exact far_nil _ | refine far_cons (by decide) ?_)) (v := .bool (decide (4294967296 ≤ x0))) (do_geq rfl Try.underlying24 (hk.at (List.mem_cons_self ..)) rfl) ?_
  clear hk; intro a hk
  refine hJ1 _ _ (wp_cond (hk.at (List.mem_cons_self ..)) ?_)
  clear hJ1
  have hk2 : Keeps 25 ([(2, .int .i64 ((s0 : Nat) : Int)), (0, .int .u64 ((x0 : Nat) : Int))]) a := by
    refine ⟨hk.1, hk.2.1, fun x hx => hk.2.2 x ?_⟩
    rcases List.mem_cons.1 hx with rfl | hx
    · exact List.mem_cons_of_mem _ (List.mem_cons_of_mem _ (List.mem_cons_self ..))
    rcases List.mem_cons.1 hx with rfl | hx
    · exact List.mem_cons_of_mem _ (List.mem_cons_of_mem _ (List.mem_cons_of_mem _ (List.mem_cons_self ..)))
    cases hx
  clear hk
  have hk := hk2
  clear hk2
  have hk2 : Keeps 25 [(2, .int .i64 ((s0 : Nat) : Int)), (0, .int .u64 ((x0 : Nat) : Int))] a := hk.sub (fun x hx => by simp at hx ⊢; rcases hx with rfl | rfl <;> simp)
  clear hk
  have hk := hk2
  clear hk2
  by_cases hc : 4294967296 ≤ x0
  case neg =>
    rw [decide_eq_false hc]
    exact wp_skip (HK1 _ _ _ hk hb0 (by omega) (by omega))
  case pos =>
    rw [decide_eq_true hc]
    refine wp_seq_k fun I1 hI1 => ?_
    refine wp_region_lit ?_
    refine list_k rfl rfl hk (by decide) (by repeat' (first | exact far_nil _ | refine far_cons (by decide) ?_)) (v := .int .u64 ((x0 : Nat) : Int)) (do_move rfl (hk.at (List.mem_cons_of_mem _ (List.mem_cons_self ..)))) ?_
    clear hk; intro a hk
    refine list_k rfl rfl hk (by decide) (by repeat' (first | exact far_nil _ | refine far_cons (by decide) ?_)) (v := .int .u64 ((x0 / 4294967296 : Nat) : Int)) (do_sh64_32 rfl (hk.at (List.mem_cons_self ..))) ?_
    clear hk; intro a hk
    have hk2 : Keeps 25 ([(6, .int .u64 ((x0 / 4294967296 : Nat) : Int)), (5, .int .u64 ((x0 : Nat) : Int)), (2, .int .i64 ((s0 : Nat) : Int))]) a := by
      refine ⟨hk.1, hk.2.1, fun x hx => hk.2.2 x ?_⟩
      rcases List.mem_cons.1 hx with rfl | hx
      · exact List.mem_cons_self ..
      rcases List.mem_cons.1 hx with rfl | hx
      · exact List.mem_cons_of_mem _ (List.mem_cons_self ..)
      rcases List.mem_cons.1 hx with rfl | hx
      · exact List.mem_cons_of_mem _ (List.mem_cons_of_mem _ (List.mem_cons_self ..))
      cases hx
    clear hk
    have hk := hk2
    clear hk2
    refine list_k rfl rfl hk (by decide) (by repeat' (first | exact far_nil _ | refine far_cons (by decide) ?_)) (v := .int .u64 ((x0 / 4294967296 : Nat) : Int)) (do_assign rfl (hk.at (List.mem_cons_self ..))) ?_
    clear hk; intro a hk
    refine hI1 _ _ ?_
    clear hI1
    have hk2 : Keeps 25 ([(0, .int .u64 ((x0 / 4294967296 : Nat) : Int)), (2, .int .i64 ((s0 : Nat) : Int))]) a := by
      refine ⟨hk.1, hk.2.1, fun x hx => hk.2.2 x ?_⟩
      rcases List.mem_cons.1 hx with rfl | hx
      · exact List.mem_cons_self ..
      rcases List.mem_cons.1 hx with rfl | hx
      · exact List.mem_cons_of_mem _ (List.mem_cons_of_mem _ (List.mem_cons_of_mem _ (List.mem_cons_self ..)))
      cases hx
    clear hk
    have hk := hk2
    clear hk2
    refine wp_region_lit ?_
    have hk2 : Keeps 25 ([(0, .int .u64 ((x0 / 4294967296 : Nat) : Int))]) a := by
      refine ⟨hk.1, hk.2.1, fun x hx => hk.2.2 x ?_⟩
      rcases List.mem_cons.1 hx with rfl | hx
      · exact List.mem_cons_self ..
      cases hx
    clear hk
    have hk := hk2
    clear hk2
    refine list_k rfl rfl hk (by decide) (by repeat' (first | exact far_nil _ | refine far_cons (by decide) ?_)) (v := .int .i64 ((32 : Nat) : Int)) (do_assign rfl rfl) ?_
    clear hk; intro a hk
    have hk2 : Keeps 25 ([(2, .int .i64 ((32 : Nat) : Int)), (0, .int .u64 ((x0 / 4294967296 : Nat) : Int))]) a := by
      refine ⟨hk.1, hk.2.1, fun x hx => hk.2.2 x ?_⟩
      rcases List.mem_cons.1 hx with rfl | hx
      · exact List.mem_cons_self ..
      rcases List.mem_cons.1 hx with rfl | hx
      · exact List.mem_cons_of_mem _ (List.mem_cons_self ..)
      cases hx
    clear hk
    have hk := hk2
    clear hk2
    obtain rfl : s0 = 0 := by omega
    have hsh := Lib.bitLen_shift32 x0 hc (by omega)
    exact HK1 _ (x0 / 4294967296) (32) (hk.sub (fun x hx => by simp at hx ⊢; rcases hx with rfl | rfl <;> simp)) (by rw [hb0, hsh]; omega) (by omega) (by omega)
theorem len64_ok (x : Nat) (w : World) (h0 : 0 < x) (h1 : x < 18446744073709551616) :
    Calls Try.prog 48 #[.int .u64 (x : Int)] w fun e w' => ∃ L : Nat, e = .returned (.int .i64 (L : Int)) ∧ w' = w ∧ 1 ≤ L ∧ 2 ^ (L - 1) ≤ x ∧ x < 2 ^ L := by
  refine (len64_nat x w h1).mono ?_
  rintro e w' ⟨rfl, rfl⟩
  have hb := Go.Lib.bitLenAux_bounds 64 x (by simpa using h1) (by omega)
  exact ⟨Lib.bitLen x, rfl, rfl, hb⟩
end Go.Proofs.Ytcojcohipmoopaa
