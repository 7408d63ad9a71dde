/- Contracts: ULID's number of 80 bits, in its place among the cells of monotonic entropy. -/
import Derived.Test.YtcojcohipmoopaaMEnt
namespace Go.Proofs.Ytcojcohipmoopaa
open Go.RowKit
set_option linter.unusedVariables false
set_option linter.unusedSimpArgs false
/-- The cells of monotonic entropy. -/
def mC (gs ms inc hi lo : Nat) (rnd : List UInt8) : List Value :=
  .iface 35 (.pointer (some ⟨gs, 0, none⟩)) :: .int .u64 ((ms : Nat) : Int) :: .int .u64 ((inc : Nat) : Int) :: .int .u16 ((hi : Nat) : Int) :: .int .u64 ((lo : Nat) : Int) :: (bvs rnd ++ [.nilIface])
def mE (gs ms inc E : Nat) (rnd : List UInt8) : List Value := mC gs ms inc (E / 18446744073709551616) (E % 18446744073709551616) rnd
theorem mC_length {gs ms inc hi lo : Nat} {rnd : List UInt8} (h : rnd.length = 8) : (mC gs ms inc hi lo rnd).length = 14 := by simp [mC, bvs_length, h]
theorem do_addV {P : Program} {a : Act} {w : World} {o : Oper} {x y : Operand} {t u : TypeId} {k : IntKind} {m n v : Nat} (ho : o.op = .binOp .add t x y u) (hu : P.underlying t = some (.int k)) (hx : a.eval x = .int k (m : Int)) (hy : a.eval y = .int k (n : Int)) (hw : k.wrap ((m : Int) + n) = (v : Int)) : (execOp a.eval o).run P w = .ok (.value (.int k (v : Int))) w := by
  unfold execOp; simp only [ho, hx, hy]; go_simp
theorem do_headB {P : Program} {a : Act} {w : World} {o : Oper} {t e : TypeId} {x y : Operand} (ho : o.op = .slice t x none (some y) none) (hu : P.underlying t = some (.slice e)) (hs : (P.info? e).map (·.size) = some 1)
    {ad : Option Addr} {n c k : Nat} (hx : a.eval x = .slice ad n c) {yi : Int} (hy : a.eval y = .int .i64 yi) (hyk : yi = (k : Int)) (hk : k ≤ c) (h0 : 0 < c) : (execOp a.eval o).run P w = .ok (.value (.slice ad k c)) w := by
  subst hyk; exact do_head ho hu hs hx hy hk h0
theorem do_tailB {P : Program} {a : Act} {w : World} {o : Oper} {t e : TypeId} {x y : Operand} (ho : o.op = .slice t x (some y) none none) (hu : P.underlying t = some (.slice e)) (hs : (P.info? e).map (·.size) = some 1)
    {b off n c k : Nat} (hx : a.eval x = .slice (some ⟨b, off, none⟩) n c) {yi : Int} (hy : a.eval y = .int .i64 yi) (hyk : yi = (k : Int)) (hk : k ≤ n) (hc : k < c) : (execOp a.eval o).run P w = .ok (.value (.slice (some ⟨b, off + k, none⟩) (n - k) (c - k))) w := by
  subst hyk; exact still_slice_from (S := fun _ => True) ho hu hs hx hy hk hc w trivial
theorem be_join : ∀ (m k n : Nat), be (m + k) n = be m (n / 256 ^ k) ++ be k n
  | m, 0, n => by simp [be]
  | m, k + 1, n => by
    show be (m + k) (n / 256) ++ [UInt8.ofNat n] = be m (n / 256 ^ (k + 1)) ++ (be k (n / 256) ++ [UInt8.ofNat n])
    rw [be_join m k (n / 256), Nat.div_div_eq_div_mul, Nat.pow_succ, Nat.mul_comm 256 (256 ^ k), List.append_assoc]
theorem be_mod : ∀ (m n : Nat), be m (n % 256 ^ m) = be m n
  | 0, _ => rfl
  | m + 1, n => by
    show be m (n % 256 ^ (m + 1) / 256) ++ [UInt8.ofNat (n % 256 ^ (m + 1))] = be m (n / 256) ++ [UInt8.ofNat n]
    have h1 : n % 256 ^ (m + 1) / 256 = n / 256 % 256 ^ m := by
      rw [Nat.pow_succ, Nat.mul_comm, Nat.mod_mul_right_div_self]
    have h2 : UInt8.ofNat (n % 256 ^ (m + 1)) = UInt8.ofNat n := by
      apply UInt8.toNat.inj
      rw [UInt8.toNat_ofNat', UInt8.toNat_ofNat', Nat.pow_succ, show (2 ^ 8 : Nat) = 256 from rfl]
      exact Nat.mod_mod_of_dvd _ (Nat.dvd_mul_left _ _)
    rw [h1, h2, be_mod m]

theorem ret_tmp1 {P : Program} {fn : Func} {w : World} {R : Ending → World → Prop} {a : Act} {t : Tmp} (h : fn.results = #[.tmp t]) (hd : a.defers = []) {v : Value} (hv : a.eval (.tmp t) = v) (hR : R (.returned v) w) : bodyPost P fn R .ret a w := by
  refine bodyPost_ret (v := v) ?_ hd hR
  subst hv
  simp only [results_tmp h]
  rfl
theorem do_fld51_0 {a : Act} {w : World} {o : Oper} {x : Operand} (ho : o.op = .fieldAddr 51 x 0) {g k : Nat} (hx : a.eval x = .pointer (some ⟨g, k, none⟩)) : (execOp a.eval o).run Try.prog w = .ok (.value (.pointer (some ⟨g, k, none⟩))) w := by
  unfold execOp
  simp only [ho, hx]
  go_simp
theorem do_fld51_1 {a : Act} {w : World} {o : Oper} {x : Operand} (ho : o.op = .fieldAddr 51 x 1) {g k : Nat} (hx : a.eval x = .pointer (some ⟨g, k, none⟩)) : (execOp a.eval o).run Try.prog w = .ok (.value (.pointer (some ⟨g, k + 1, none⟩))) w := by
  unfold execOp
  simp only [ho, hx]
  go_simp
set_option maxRecDepth 100000 in
theorem uAdd_ok (gm gs ms inc E n : Nat) (rnd : List UInt8) (t : TypeId) (w : World) (hB : Blk w gm (mE gs ms inc E rnd) t) (hr8 : rnd.length = 8) (hn : n < 18446744073709551616) (hE : E + n < 1208925819614629174706176) :
    Calls Try.prog 43 #[.pointer (some ⟨gm, 3, none⟩), .int .u64 (n : Int)] w fun e w' => e = .returned (.bool false) ∧ Blk w' gm (mE gs ms inc (E + n) rnd) t ∧ w.grownBy w' (some gm) := by
  have eE : mE gs ms inc (E + n) rnd = mC gs ms inc (E / 18446744073709551616 + (E % 18446744073709551616 + n) / 18446744073709551616) ((E % 18446744073709551616 + n) % 18446744073709551616) rnd := by
    unfold mE
    rw [show (E + n) / 18446744073709551616 = E / 18446744073709551616 + (E % 18446744073709551616 + n) / 18446744073709551616 by omega, show (E + n) % 18446744073709551616 = (E % 18446744073709551616 + n) % 18446744073709551616 by omega]
  rw [eE]
  have hlo : E % 18446744073709551616 < 18446744073709551616 := Nat.mod_lt _ (by decide)
  have hhi : E / 18446744073709551616 + (E % 18446744073709551616 + n) / 18446744073709551616 < 65536 := by omega
  have hB' : Blk w gm (mC gs ms inc (E / 18446744073709551616) (E % 18446744073709551616) rnd) t := hB
  clear hB eE hE
  have hB := hB'
  clear hB'
  generalize E / 18446744073709551616 = hi at *
  generalize E % 18446744073709551616 = lo at *
  go_enter Try.func43, Try.ntmps43
  refine of_keeps 42 [(1, .int .u64 ((n : Nat) : Int)), (0, .pointer (some ⟨gm, 3, none⟩))] ⟨by kernel_rfl, rfl, fun x hx => by simp at hx; rcases hx with rfl | rfl <;> rfl⟩ fun a hk => ?_
  refine wp_seq_k fun K0 hK0 => ?_
  refine wp_region_lit ?_
  refine list_k rfl rfl hk (by decide) (by repeat' (first | exact far_nil _ | refine far_cons (by decide) ?_)) (v := .bool false) (do_assign rfl rfl) ?_
  clear hk; intro a hk
  refine hK0 _ _ ?_
  clear hK0
  have hk2 : Keeps 42 ([(1, .int .u64 ((n : Nat) : Int)), (0, .pointer (some ⟨gm, 3, none⟩))]) a := by
    refine ⟨hk.1, hk.2.1, fun x hx => hk.2.2 x ?_⟩
    rcases List.mem_cons.1 hx with rfl | hx
    · exact List.mem_cons_of_mem _ (List.mem_cons_self ..)
    rcases List.mem_cons.1 hx with rfl | hx
    · exact List.mem_cons_of_mem _ (List.mem_cons_of_mem _ (List.mem_cons_self ..))
    cases hx
  clear hk
  have hk := hk2
  clear hk2
  refine wp_seq_k fun K1 hK1 => ?_
  refine region_plan2 (fun w' => Below w.heap.size w w') [(0, 0), (1, 0), (2, 0), (3, 0), (4, 0), (5, 0), (6, 0), (7, 0), (8, 0), (9, 0)] rfl (by kernel_rfl) (by kernel_rfl) rfl (by intro c a d v w h; cases d <;> exact h) (fun _ _ h => h) ?_
  intro OPS wd hpW hbd
  clear hpW
  refine plan_k rfl hk (by decide) (by repeat' (first | exact far_nil _ | refine far_cons (by decide) ?_)) (v := .pointer (some ⟨gm, 3, none⟩)) (fun o ho w' hS => do_move ho (hk.at (List.mem_cons_of_mem _ (List.mem_cons_self ..)))) ?_
  clear hk; intro a hk
  refine plan_k rfl hk (by decide) (by repeat' (first | exact far_nil _ | refine far_cons (by decide) ?_)) (v := .pointer (some ⟨gm, 3, none⟩)) (fun o ho w' hS => do_nilc ho (hk.at (List.mem_cons_self ..))) ?_
  clear hk; intro a hk
  refine plan_k rfl hk (by decide) (by repeat' (first | exact far_nil _ | refine far_cons (by decide) ?_)) (v := .pointer (some ⟨gm, 3 + 1, none⟩)) (fun o ho w' hS => do_fld51_1 ho (hk.at (List.mem_cons_self ..))) ?_
  clear hk; intro a hk
  refine plan_k rfl hk (by decide) (by repeat' (first | exact far_nil _ | refine far_cons (by decide) ?_)) (v := .int .u64 ((lo : Nat) : Int)) (fun o ho w' hS => do_ldB ho Try.underlying24 rfl (hk.at (List.mem_cons_self ..)) (hB.kept hS) rfl) ?_
  clear hk; intro a hk
  refine plan_k rfl hk (by decide) (by repeat' (first | exact far_nil _ | refine far_cons (by decide) ?_)) (v := .pointer (some ⟨gm, 3, none⟩)) (fun o ho w' hS => do_move ho (hk.at (List.mem_cons_of_mem _ (List.mem_cons_of_mem _ (List.mem_cons_of_mem _ (List.mem_cons_of_mem _ (List.mem_cons_of_mem _ (List.mem_cons_self ..)))))))) ?_
  clear hk; intro a hk
  refine plan_k rfl hk (by decide) (by repeat' (first | exact far_nil _ | refine far_cons (by decide) ?_)) (v := .pointer (some ⟨gm, 3, none⟩)) (fun o ho w' hS => do_nilc ho (hk.at (List.mem_cons_self ..))) ?_
  clear hk; intro a hk
  refine plan_k rfl hk (by decide) (by repeat' (first | exact far_nil _ | refine far_cons (by decide) ?_)) (v := .pointer (some ⟨gm, 3, none⟩)) (fun o ho w' hS => do_fld51_0 ho (hk.at (List.mem_cons_self ..))) ?_
  clear hk; intro a hk
  refine plan_k rfl hk (by decide) (by repeat' (first | exact far_nil _ | refine far_cons (by decide) ?_)) (v := .int .u16 ((hi : Nat) : Int)) (fun o ho w' hS => do_ldB ho Try.underlying49 rfl (hk.at (List.mem_cons_self ..)) (hB.kept hS) rfl) ?_
  clear hk; intro a hk
  refine plan_k rfl hk (by decide) (by repeat' (first | exact far_nil _ | refine far_cons (by decide) ?_)) (v := .int .u64 ((lo : Nat) : Int)) (fun o ho w' hS => do_assign ho (hk.at (List.mem_cons_of_mem _ (List.mem_cons_of_mem _ (List.mem_cons_of_mem _ (List.mem_cons_of_mem _ (List.mem_cons_self ..))))))) ?_
  clear hk; intro a hk
  refine plan_k rfl hk (by decide) (by repeat' (first | exact far_nil _ | refine far_cons (by decide) ?_)) (v := .int .u16 ((hi : Nat) : Int)) (fun o ho w' hS => do_assign ho (hk.at (List.mem_cons_of_mem _ (List.mem_cons_self ..)))) ?_
  clear hk; intro a hk
  refine plan_k0 ?_
  refine hK1 _ _ ?_
  clear hK1
  have hB1 := hB.kept hbd
  have hk2 : Keeps 42 ([(6, .int .u16 ((hi : Nat) : Int)), (5, .int .u64 ((lo : Nat) : Int)), (1, .int .u64 ((n : Nat) : Int)), (0, .pointer (some ⟨gm, 3, none⟩))]) a := by
    refine ⟨hk.1, hk.2.1, fun x hx => hk.2.2 x ?_⟩
    rcases List.mem_cons.1 hx with rfl | hx
    · exact List.mem_cons_self ..
    rcases List.mem_cons.1 hx with rfl | hx
    · exact List.mem_cons_of_mem _ (List.mem_cons_self ..)
    rcases List.mem_cons.1 hx with rfl | hx
    · exact List.mem_cons_of_mem _ (List.mem_cons_of_mem _ (List.mem_cons_of_mem _ (List.mem_cons_of_mem _ (List.mem_cons_of_mem _ (List.mem_cons_of_mem _ (List.mem_cons_of_mem _ (List.mem_cons_of_mem _ (List.mem_cons_of_mem _ (List.mem_cons_of_mem _ (List.mem_cons_self ..))))))))))
    rcases List.mem_cons.1 hx with rfl | hx
    · exact List.mem_cons_of_mem _ (List.mem_cons_of_mem _ (List.mem_cons_of_mem _ (List.mem_cons_of_mem _ (List.mem_cons_of_mem _ (List.mem_cons_of_mem _ (List.mem_cons_of_mem _ (List.mem_cons_of_mem _ (List.mem_cons_of_mem _ (List.mem_cons_of_mem _ (List.mem_cons_of_mem _ (List.mem_cons_self ..)))))))))))
    cases hx
  clear hk
  have hk := hk2
  clear hk2
  refine wp_seq_k fun K2 hK2 => ?_
  refine wp_seq_k fun K3 hK3 => ?_
  refine wp_region_lit ?_
  refine list_k rfl rfl hk (by decide) (by repeat' (first | exact far_nil _ | refine far_cons (by decide) ?_)) (v := .pointer (some ⟨gm, 3, none⟩)) (do_move rfl (hk.at (List.mem_cons_of_mem _ (List.mem_cons_of_mem _ (List.mem_cons_of_mem _ (List.mem_cons_self ..)))))) ?_
  clear hk; intro a hk
  refine list_k rfl rfl hk (by decide) (by repeat' (first | exact far_nil _ | refine far_cons (by decide) ?_)) (v := .pointer (some ⟨gm, 3, none⟩)) (do_nilc rfl (hk.at (List.mem_cons_self ..))) ?_
  clear hk; intro a hk
  refine list_k rfl rfl hk (by decide) (by repeat' (first | exact far_nil _ | refine far_cons (by decide) ?_)) (v := .pointer (some ⟨gm, 3 + 1, none⟩)) (do_fld51_1 rfl (hk.at (List.mem_cons_self ..))) ?_
  clear hk; intro a hk
  refine list_k rfl rfl hk (by decide) (by repeat' (first | exact far_nil _ | refine far_cons (by decide) ?_)) (v := .int .u64 ((lo : Nat) : Int)) (do_ldB rfl Try.underlying24 rfl (hk.at (List.mem_cons_self ..)) hB1 rfl) ?_
  clear hk; intro a hk
  refine list_k rfl rfl hk (by decide) (by repeat' (first | exact far_nil _ | refine far_cons (by decide) ?_)) (v := .int .u64 ((n : Nat) : Int)) (do_move rfl (hk.at (List.mem_cons_of_mem _ (List.mem_cons_of_mem _ (List.mem_cons_of_mem _ (List.mem_cons_of_mem _ (List.mem_cons_of_mem _ (List.mem_cons_of_mem _ (List.mem_cons_self ..))))))))) ?_
  clear hk; intro a hk
  refine list_k rfl rfl hk (by decide) (by repeat' (first | exact far_nil _ | refine far_cons (by decide) ?_)) (v := .int .u64 (((lo + n) % 18446744073709551616 : Nat) : Int)) (do_addV rfl Try.underlying24 (hk.at (List.mem_cons_of_mem _ (List.mem_cons_self ..))) (hk.at (List.mem_cons_self ..)) (by rw [IntKind.wrap_u64]; omega)) ?_
  clear hk; intro a hk
  refine list_k rfl rfl hk (by decide) (by repeat' (first | exact far_nil _ | refine far_cons (by decide) ?_)) (v := .pointer (some ⟨gm, 3, none⟩)) (do_nilc rfl (hk.at (List.mem_cons_of_mem _ (List.mem_cons_of_mem _ (List.mem_cons_of_mem _ (List.mem_cons_of_mem _ (List.mem_cons_of_mem _ (List.mem_cons_self ..)))))))) ?_
  clear hk; intro a hk
  refine list_k rfl rfl hk (by decide) (by repeat' (first | exact far_nil _ | refine far_cons (by decide) ?_)) (v := .pointer (some ⟨gm, 3 + 1, none⟩)) (do_fld51_1 rfl (hk.at (List.mem_cons_self ..))) ?_
  clear hk; intro a hk
  refine wp_store_cell rfl rfl (by kernel_rfl) (hk.at (List.mem_cons_self ..)) (hk.at (List.mem_cons_of_mem _ (List.mem_cons_of_mem _ (List.mem_cons_self ..)))) rfl hB1 (by rw [mC_length hr8]; decide) fun w2 b2 g2 s2 => ?_
  refine keep_0 hk ?_
  clear hk; intro a hk
  refine hK3 _ _ ?_
  clear hK3
  have hk2 : Keeps 42 ([(6, .int .u16 ((hi : Nat) : Int)), (5, .int .u64 ((lo : Nat) : Int)), (0, .pointer (some ⟨gm, 3, none⟩))]) a := by
    refine ⟨hk.1, hk.2.1, fun x hx => hk.2.2 x ?_⟩
    rcases List.mem_cons.1 hx with rfl | hx
    · exact List.mem_cons_of_mem _ (List.mem_cons_of_mem _ (List.mem_cons_of_mem _ (List.mem_cons_of_mem _ (List.mem_cons_of_mem _ (List.mem_cons_of_mem _ (List.mem_cons_of_mem _ (List.mem_cons_of_mem _ (List.mem_cons_self ..))))))))
    rcases List.mem_cons.1 hx with rfl | hx
    · exact List.mem_cons_of_mem _ (List.mem_cons_of_mem _ (List.mem_cons_of_mem _ (List.mem_cons_of_mem _ (List.mem_cons_of_mem _ (List.mem_cons_of_mem _ (List.mem_cons_of_mem _ (List.mem_cons_of_mem _ (List.mem_cons_of_mem _ (List.mem_cons_self ..)))))))))
    rcases List.mem_cons.1 hx with rfl | hx
    · exact List.mem_cons_of_mem _ (List.mem_cons_of_mem _ (List.mem_cons_of_mem _ (List.mem_cons_of_mem _ (List.mem_cons_of_mem _ (List.mem_cons_of_mem _ (List.mem_cons_of_mem _ (List.mem_cons_of_mem _ (List.mem_cons_of_mem _ (List.mem_cons_of_mem _ (List.mem_cons_of_mem _ (List.mem_cons_self ..)))))))))))
    cases hx
  clear hk
  have hk := hk2
  clear hk2
  have b2' : Blk w2 gm (mC gs ms inc (hi) ((lo + n) % 18446744073709551616) rnd) t := b2
  have HK : ∀ (a : Act) (w' : World), Keeps 42 [(6, .int .u16 ((hi : Nat) : Int)), (5, .int .u64 ((lo : Nat) : Int)), (0, .pointer (some ⟨gm, 3, none⟩))] a → Blk w' gm (mC gs ms inc (hi + (lo + n) / 18446744073709551616) ((lo + n) % 18446744073709551616) rnd) t → w2.grownBy w' (some gm) → K2 a w' := by
    intro a w3 hk hB3 g3
    refine hK2 _ _ ?_
    clear hK2
    refine wp_seq_k fun K5 hK5 => ?_
    refine wp_region_lit ?_
    refine list_k rfl rfl hk (by decide) (by repeat' (first | exact far_nil _ | refine far_cons (by decide) ?_)) (v := .pointer (some ⟨gm, 3, none⟩)) (do_move rfl (hk.at (List.mem_cons_of_mem _ (List.mem_cons_of_mem _ (List.mem_cons_self ..))))) ?_
    clear hk; intro a hk
    refine list_k rfl rfl hk (by decide) (by repeat' (first | exact far_nil _ | refine far_cons (by decide) ?_)) (v := .pointer (some ⟨gm, 3, none⟩)) (do_nilc rfl (hk.at (List.mem_cons_self ..))) ?_
    clear hk; intro a hk
    refine list_k rfl rfl hk (by decide) (by repeat' (first | exact far_nil _ | refine far_cons (by decide) ?_)) (v := .pointer (some ⟨gm, 3, none⟩)) (do_fld51_0 rfl (hk.at (List.mem_cons_self ..))) ?_
    clear hk; intro a hk
    refine list_k rfl rfl hk (by decide) (by repeat' (first | exact far_nil _ | refine far_cons (by decide) ?_)) (v := .int .u16 ((hi + (lo + n) / 18446744073709551616 : Nat) : Int)) (do_ldB rfl Try.underlying49 rfl (hk.at (List.mem_cons_self ..)) hB3 rfl) ?_
    clear hk; intro a hk
    refine list_k rfl rfl hk (by decide) (by repeat' (first | exact far_nil _ | refine far_cons (by decide) ?_)) (v := .int .u16 ((hi : Nat) : Int)) (do_move rfl (hk.at (List.mem_cons_of_mem _ (List.mem_cons_of_mem _ (List.mem_cons_of_mem _ (List.mem_cons_of_mem _ (List.mem_cons_self ..))))))) ?_
    clear hk; intro a hk
    refine list_k rfl rfl hk (by decide) (by repeat' (first | exact far_nil _ | refine far_cons (by decide) ?_)) (v := .bool (decide (hi + (lo + n) / 18446744073709551616 < hi))) (do_lss rfl Try.underlying49 (hk.at (List.mem_cons_of_mem _ (List.mem_cons_self ..))) (hk.at (List.mem_cons_self ..))) ?_
    clear hk; intro a hk
    refine list_k rfl rfl hk (by decide) (by repeat' (first | exact far_nil _ | refine far_cons (by decide) ?_)) (v := .bool (decide (hi + (lo + n) / 18446744073709551616 < hi))) (do_assign rfl (hk.at (List.mem_cons_self ..))) ?_
    clear hk; intro a hk
    refine hK5 _ _ (wp_ret ?_)
    refine ret_tmp1 (t := 4) rfl hk.2.1 (hk.at (List.mem_cons_self ..)) ?_
    rw [decide_eq_false (by omega)]
    exact ⟨rfl, hB3, grown_trans (grown_below hbd _) (grown_trans g2 g3)⟩
  clear hK2
  refine wp_seq_k fun K4 hK4 => ?_
  refine wp_region_lit ?_
  refine list_k rfl rfl hk (by decide) (by repeat' (first | exact far_nil _ | refine far_cons (by decide) ?_)) (v := .pointer (some ⟨gm, 3, none⟩)) (do_move rfl (hk.at (List.mem_cons_of_mem _ (List.mem_cons_of_mem _ (List.mem_cons_self ..))))) ?_
  clear hk; intro a hk
  refine list_k rfl rfl hk (by decide) (by repeat' (first | exact far_nil _ | refine far_cons (by decide) ?_)) (v := .pointer (some ⟨gm, 3, none⟩)) (do_nilc rfl (hk.at (List.mem_cons_self ..))) ?_
  clear hk; intro a hk
  refine list_k rfl rfl hk (by decide) (by repeat' (first | exact far_nil _ | refine far_cons (by decide) ?_)) (v := .pointer (some ⟨gm, 3 + 1, none⟩)) (do_fld51_1 rfl (hk.at (List.mem_cons_self ..))) ?_
  clear hk; intro a hk
  refine list_k rfl rfl hk (by decide) (by repeat' (first | exact far_nil _ | refine far_cons (by decide) ?_)) (v := .int .u64 (((lo + n) % 18446744073709551616 : Nat) : Int)) (do_ldB rfl Try.underlying24 rfl (hk.at (List.mem_cons_self ..)) b2' rfl) ?_
  clear hk; intro a hk
  refine list_k rfl rfl hk (by decide) (by repeat' (first | exact far_nil _ | refine far_cons (by decide) ?_)) (v := .int .u64 ((lo : Nat) : Int)) (do_move rfl (hk.at (List.mem_cons_of_mem _ (List.mem_cons_of_mem _ (List.mem_cons_of_mem _ (List.mem_cons_of_mem _ (List.mem_cons_of_mem _ (List.mem_cons_self ..)))))))) ?_
  clear hk; intro a hk
  refine list_k rfl rfl hk (by decide) (by repeat' (first | exact far_nil _ | refine far_cons (by decide) ?_)) (v := .bool (decide ((lo + n) % 18446744073709551616 < lo))) (do_lss rfl Try.underlying24 (hk.at (List.mem_cons_of_mem _ (List.mem_cons_self ..))) (hk.at (List.mem_cons_self ..))) ?_
  clear hk; intro a hk
  refine hK4 _ _ (wp_cond (hk.at (List.mem_cons_self ..)) ?_)
  clear hK4
  have hk2 : Keeps 42 ([(6, .int .u16 ((hi : Nat) : Int)), (5, .int .u64 ((lo : Nat) : Int)), (0, .pointer (some ⟨gm, 3, none⟩))]) a := by
    refine ⟨hk.1, hk.2.1, fun x hx => hk.2.2 x ?_⟩
    rcases List.mem_cons.1 hx with rfl | hx
    · exact List.mem_cons_of_mem _ (List.mem_cons_of_mem _ (List.mem_cons_of_mem _ (List.mem_cons_of_mem _ (List.mem_cons_of_mem _ (List.mem_cons_of_mem _ (List.mem_cons_self ..))))))
    rcases List.mem_cons.1 hx with rfl | hx
    · exact List.mem_cons_of_mem _ (List.mem_cons_of_mem _ (List.mem_cons_of_mem _ (List.mem_cons_of_mem _ (List.mem_cons_of_mem _ (List.mem_cons_of_mem _ (List.mem_cons_of_mem _ (List.mem_cons_self ..)))))))
    rcases List.mem_cons.1 hx with rfl | hx
    · exact List.mem_cons_of_mem _ (List.mem_cons_of_mem _ (List.mem_cons_of_mem _ (List.mem_cons_of_mem _ (List.mem_cons_of_mem _ (List.mem_cons_of_mem _ (List.mem_cons_of_mem _ (List.mem_cons_of_mem _ (List.mem_cons_self ..))))))))
    cases hx
  clear hk
  have hk := hk2
  clear hk2
  have hk2 : Keeps 42 [(6, .int .u16 ((hi : Nat) : Int)), (5, .int .u64 ((lo : Nat) : Int)), (0, .pointer (some ⟨gm, 3, none⟩))] a := hk.sub (fun x hx => by simp at hx ⊢; rcases hx with rfl | rfl | rfl <;> simp)
  clear hk
  have hk := hk2
  clear hk2
  by_cases hcar : (lo + n) % 18446744073709551616 < lo
  case neg =>
    rw [decide_eq_false hcar]
    refine wp_skip (HK _ _ hk ?_ (World.grownBy.refl _ _))
    rw [show hi + (lo + n) / 18446744073709551616 = hi by omega]
    exact b2'
  case pos =>
    rw [decide_eq_true hcar]
    refine wp_region_lit ?_
    refine list_k rfl rfl hk (by decide) (by repeat' (first | exact far_nil _ | refine far_cons (by decide) ?_)) (v := .pointer (some ⟨gm, 3, none⟩)) (do_move rfl (hk.at (List.mem_cons_of_mem _ (List.mem_cons_of_mem _ (List.mem_cons_self ..))))) ?_
    clear hk; intro a hk
    refine list_k rfl rfl hk (by decide) (by repeat' (first | exact far_nil _ | refine far_cons (by decide) ?_)) (v := .pointer (some ⟨gm, 3, none⟩)) (do_nilc rfl (hk.at (List.mem_cons_self ..))) ?_
    clear hk; intro a hk
    refine list_k rfl rfl hk (by decide) (by repeat' (first | exact far_nil _ | refine far_cons (by decide) ?_)) (v := .pointer (some ⟨gm, 3, none⟩)) (do_fld51_0 rfl (hk.at (List.mem_cons_self ..))) ?_
    clear hk; intro a hk
    refine list_k rfl rfl hk (by decide) (by repeat' (first | exact far_nil _ | refine far_cons (by decide) ?_)) (v := .int .u16 ((hi : Nat) : Int)) (do_ldB rfl Try.underlying49 rfl (hk.at (List.mem_cons_self ..)) b2' rfl) ?_
    clear hk; intro a hk
    refine list_k rfl rfl hk (by decide) (by repeat' (first | exact far_nil _ | refine far_cons (by decide) ?_)) (v := .int .u16 ((hi + (lo + n) / 18446744073709551616 : Nat) : Int)) ((do_addV (n := 1) rfl Try.underlying49 (hk.at (List.mem_cons_self ..)) rfl (by rw [IntKind.wrap_u16]; omega))) ?_
    clear hk; intro a hk
    refine list_k rfl rfl hk (by decide) (by repeat' (first | exact far_nil _ | refine far_cons (by decide) ?_)) (v := .pointer (some ⟨gm, 3, none⟩)) (do_nilc rfl (hk.at (List.mem_cons_of_mem _ (List.mem_cons_of_mem _ (List.mem_cons_of_mem _ (List.mem_cons_of_mem _ (List.mem_cons_self ..))))))) ?_
    clear hk; intro a hk
    refine list_k rfl rfl hk (by decide) (by repeat' (first | exact far_nil _ | refine far_cons (by decide) ?_)) (v := .pointer (some ⟨gm, 3, none⟩)) (do_fld51_0 rfl (hk.at (List.mem_cons_self ..))) ?_
    clear hk; intro a hk
    refine wp_store_cell rfl rfl (by kernel_rfl) (hk.at (List.mem_cons_self ..)) (hk.at (List.mem_cons_of_mem _ (List.mem_cons_of_mem _ (List.mem_cons_self ..)))) rfl b2' (by rw [mC_length hr8]; decide) fun w3 b3 g3 s3 => ?_
    refine keep_0 hk ?_
    clear hk; intro a hk
    have hk2 : Keeps 42 ([(6, .int .u16 ((hi : Nat) : Int)), (5, .int .u64 ((lo : Nat) : Int)), (0, .pointer (some ⟨gm, 3, none⟩))]) a := by
      refine ⟨hk.1, hk.2.1, fun x hx => hk.2.2 x ?_⟩
      rcases List.mem_cons.1 hx with rfl | hx
      · exact List.mem_cons_of_mem _ (List.mem_cons_of_mem _ (List.mem_cons_of_mem _ (List.mem_cons_of_mem _ (List.mem_cons_of_mem _ (List.mem_cons_of_mem _ (List.mem_cons_of_mem _ (List.mem_cons_self ..)))))))
      rcases List.mem_cons.1 hx with rfl | hx
      · exact List.mem_cons_of_mem _ (List.mem_cons_of_mem _ (List.mem_cons_of_mem _ (List.mem_cons_of_mem _ (List.mem_cons_of_mem _ (List.mem_cons_of_mem _ (List.mem_cons_of_mem _ (List.mem_cons_of_mem _ (List.mem_cons_self ..))))))))
      rcases List.mem_cons.1 hx with rfl | hx
      · exact List.mem_cons_of_mem _ (List.mem_cons_of_mem _ (List.mem_cons_of_mem _ (List.mem_cons_of_mem _ (List.mem_cons_of_mem _ (List.mem_cons_of_mem _ (List.mem_cons_of_mem _ (List.mem_cons_of_mem _ (List.mem_cons_of_mem _ (List.mem_cons_self ..)))))))))
      cases hx
    clear hk
    have hk := hk2
    clear hk2
    exact HK _ _ (hk.sub (fun x hx => by simp at hx ⊢; rcases hx with rfl | rfl | rfl <;> simp)) b3 g3
theorem splice_splice (cs : List Value) (off : Nat) (u v : List Value) (k : Nat) (hu : u.length = k) (h : off + k + v.length ≤ cs.length) : splice (splice cs off u) (off + k) v = splice cs off (u ++ v) := by
  subst hu
  unfold splice
  have h1 : (cs.take off).length = off := by rw [List.length_take]; omega
  have e1 : (cs.take off ++ (u ++ cs.drop (off + u.length))).take (off + u.length) = cs.take off ++ u := by
    rw [← List.append_assoc, List.take_left' (by rw [List.length_append, h1])]
  have e2 : (cs.take off ++ (u ++ cs.drop (off + u.length))).drop (off + u.length + v.length) = cs.drop (off + u.length + v.length) := by
    rw [← List.append_assoc, ← List.drop_drop, List.drop_left' (by rw [List.length_append, h1]), List.drop_drop]
  rw [e1, e2, List.length_append, ← Nat.add_assoc, List.append_assoc, List.append_assoc]
theorem put16_enter (u v : Value) (w : World) : (callFunc 44 #[u, v]).run Try.prog w = .ok (.enter 44 #[u, v]) w := by
  have h := Try.func44
  go_simp
theorem put64_enter (u v : Value) (w : World) : (callFunc 45 #[u, v]).run Try.prog w = .ok (.enter 45 #[u, v]) w := by
  have h := Try.func45
  go_simp
theorem be10 (E : Nat) (hE : E < 1208925819614629174706176) : be 2 (E / 18446744073709551616) ++ be 8 (E % 18446744073709551616) = be 10 E := by
  have h := be_join 2 8 E
  rw [show (256 ^ 8 : Nat) = 18446744073709551616 from rfl] at h
  rw [h, ← be_mod 8 E, show (256 ^ 8 : Nat) = 18446744073709551616 from rfl]
set_option maxRecDepth 100000 in
theorem uAppend_ok (gm gs ms inc E : Nat) (rnd : List UInt8) (t : TypeId) (g off : Nat) (cur : List Value) (tg : TypeId) (w : World) (hB0 : Blk w gm (mE gs ms inc E rnd) t) (hr8 : rnd.length = 8) (hE : E < 1208925819614629174706176) (hG : Blk w g cur tg) (hfit : off + 10 ≤ cur.length) (hne : g ≠ gm) :
    Calls Try.prog 40 #[.pointer (some ⟨gm, 3, none⟩), .slice (some ⟨g, off, none⟩) 10 10] w fun e w' => e = .returned (.tuple #[]) ∧ Blk w' g (splice cur off (bvs (be 10 E))) tg ∧ w.grownBy w' (some g) := by
  rw [← be10 E hE]
  have hB : Blk w gm (mC gs ms inc (E / 18446744073709551616) (E % 18446744073709551616) rnd) t := hB0
  clear hB0 hE
  generalize E / 18446744073709551616 = hi at *
  generalize E % 18446744073709551616 = lo at *
  go_enter Try.func40, Try.ntmps40
  refine of_keeps 18 [(1, .slice (some ⟨g, off, none⟩) 10 10), (0, .pointer (some ⟨gm, 3, none⟩))] ⟨by kernel_rfl, rfl, fun x hx => by simp at hx; rcases hx with rfl | rfl <;> rfl⟩ fun a hk => ?_
  refine wp_seq_k fun K0 hK0 => ?_
  refine region_plan2 (fun w' => Below w.heap.size w w') [(0, 0), (1, 0), (2, 0), (3, 0), (4, 0), (5, 0), (6, 2)] rfl (by kernel_rfl) (by kernel_rfl) rfl (by intro c a d v w h; cases d <;> exact h) (fun _ _ h => h) ?_
  intro OPS wd hpW hbd
  clear hpW
  refine plan_k rfl hk (by decide) (by repeat' (first | exact far_nil _ | refine far_cons (by decide) ?_)) (v := .slice (some ⟨g, off, none⟩) 10 10) (fun o ho w' hS => do_move ho (hk.at (List.mem_cons_self ..))) ?_
  clear hk; intro a hk
  refine plan_k rfl hk (by decide) (by repeat' (first | exact far_nil _ | refine far_cons (by decide) ?_)) (v := .slice (some ⟨g, off, none⟩) 2 10) (fun o ho w' hS => (do_headB (k := 2) ho Try.underlying28 (by kernel_rfl) (hk.at (List.mem_cons_self ..)) rfl rfl (by decide) (by decide))) ?_
  clear hk; intro a hk
  refine plan_k rfl hk (by decide) (by repeat' (first | exact far_nil _ | refine far_cons (by decide) ?_)) (v := .pointer (some ⟨gm, 3, none⟩)) (fun o ho w' hS => do_move ho (hk.at (List.mem_cons_of_mem _ (List.mem_cons_of_mem _ (List.mem_cons_of_mem _ (List.mem_cons_self ..)))))) ?_
  clear hk; intro a hk
  refine plan_k rfl hk (by decide) (by repeat' (first | exact far_nil _ | refine far_cons (by decide) ?_)) (v := .pointer (some ⟨gm, 3, none⟩)) (fun o ho w' hS => do_nilc ho (hk.at (List.mem_cons_self ..))) ?_
  clear hk; intro a hk
  refine plan_k rfl hk (by decide) (by repeat' (first | exact far_nil _ | refine far_cons (by decide) ?_)) (v := .pointer (some ⟨gm, 3, none⟩)) (fun o ho w' hS => do_fld51_0 ho (hk.at (List.mem_cons_self ..))) ?_
  clear hk; intro a hk
  refine plan_k rfl hk (by decide) (by repeat' (first | exact far_nil _ | refine far_cons (by decide) ?_)) (v := .int .u16 ((hi : Nat) : Int)) (fun o ho w' hS => do_ldB ho Try.underlying49 rfl (hk.at (List.mem_cons_self ..)) (hB.kept hS) rfl) ?_
  clear hk; intro a hk
  refine plan_kl2 rfl fun o ho hd hgd => ?_
  refine wp_call hgd (do_call2 ho (hk.at (List.mem_cons_of_mem _ (List.mem_cons_of_mem _ (List.mem_cons_of_mem _ (List.mem_cons_of_mem _ (List.mem_cons_self ..)))))) (hk.at (List.mem_cons_self ..)) (put16_enter _ _)) (bePutUint16_ok g off 2 10 hi cur tg _ (hG.kept hbd) (by decide) (by omega)) ?_
  rintro e w2 ⟨rfl, G2, g2⟩
  refine ⟨_, rfl, ?_⟩
  rw [hd]
  refine keep_k (v := .tuple #[]) hk (by decide) (by repeat' (first | exact far_nil _ | refine far_cons (by decide) ?_)) ?_
  clear hk; intro a hk
  show wpPlan _ OPS _ (fun w' => Below w.heap.size w w') (planOps2 _ _) _ _
  refine plan_k0 ?_
  refine hK0 _ _ ?_
  clear hK0
  have gd2 := grown_trans (grown_below hbd (some g)) g2
  have hB2 := hB.grown gd2 (by intro e; exact hne (Option.some.inj e).symm)
  clear hbd g2
  have hk2 : Keeps 18 ([(1, .slice (some ⟨g, off, none⟩) 10 10), (0, .pointer (some ⟨gm, 3, none⟩))]) a := by
    refine ⟨hk.1, hk.2.1, fun x hx => hk.2.2 x ?_⟩
    rcases List.mem_cons.1 hx with rfl | hx
    · exact List.mem_cons_of_mem _ (List.mem_cons_of_mem _ (List.mem_cons_of_mem _ (List.mem_cons_of_mem _ (List.mem_cons_of_mem _ (List.mem_cons_of_mem _ (List.mem_cons_of_mem _ (List.mem_cons_self ..)))))))
    rcases List.mem_cons.1 hx with rfl | hx
    · exact List.mem_cons_of_mem _ (List.mem_cons_of_mem _ (List.mem_cons_of_mem _ (List.mem_cons_of_mem _ (List.mem_cons_of_mem _ (List.mem_cons_of_mem _ (List.mem_cons_of_mem _ (List.mem_cons_of_mem _ (List.mem_cons_self ..))))))))
    cases hx
  clear hk
  have hk := hk2
  clear hk2
  refine region_plan2 (fun w' => Below w2.heap.size w2 w') [(0, 0), (1, 0), (2, 0), (3, 0), (4, 0), (5, 0), (6, 2)] rfl (by kernel_rfl) (by kernel_rfl) rfl (by intro c a d v w h; cases d <;> exact h) (fun _ _ h => h) ?_
  intro OPS w2d hpW hbd
  clear hpW
  refine plan_k rfl hk (by decide) (by repeat' (first | exact far_nil _ | refine far_cons (by decide) ?_)) (v := .slice (some ⟨g, off, none⟩) 10 10) (fun o ho w' hS => do_move ho (hk.at (List.mem_cons_self ..))) ?_
  clear hk; intro a hk
  refine plan_k rfl hk (by decide) (by repeat' (first | exact far_nil _ | refine far_cons (by decide) ?_)) (v := .slice (some ⟨g, off + 2, none⟩) (10 - 2) (10 - 2)) (fun o ho w' hS => (do_tailB (k := 2) ho Try.underlying28 (by kernel_rfl) (hk.at (List.mem_cons_self ..)) rfl rfl (by decide) (by decide))) ?_
  clear hk; intro a hk
  refine plan_k rfl hk (by decide) (by repeat' (first | exact far_nil _ | refine far_cons (by decide) ?_)) (v := .pointer (some ⟨gm, 3, none⟩)) (fun o ho w' hS => do_move ho (hk.at (List.mem_cons_of_mem _ (List.mem_cons_of_mem _ (List.mem_cons_of_mem _ (List.mem_cons_self ..)))))) ?_
  clear hk; intro a hk
  refine plan_k rfl hk (by decide) (by repeat' (first | exact far_nil _ | refine far_cons (by decide) ?_)) (v := .pointer (some ⟨gm, 3, none⟩)) (fun o ho w' hS => do_nilc ho (hk.at (List.mem_cons_self ..))) ?_
  clear hk; intro a hk
  refine plan_k rfl hk (by decide) (by repeat' (first | exact far_nil _ | refine far_cons (by decide) ?_)) (v := .pointer (some ⟨gm, 3 + 1, none⟩)) (fun o ho w' hS => do_fld51_1 ho (hk.at (List.mem_cons_self ..))) ?_
  clear hk; intro a hk
  refine plan_k rfl hk (by decide) (by repeat' (first | exact far_nil _ | refine far_cons (by decide) ?_)) (v := .int .u64 ((lo : Nat) : Int)) (fun o ho w' hS => do_ldB ho Try.underlying24 rfl (hk.at (List.mem_cons_self ..)) (hB2.kept hS) rfl) ?_
  clear hk; intro a hk
  refine plan_kl2 rfl fun o ho hd hgd => ?_
  refine wp_call hgd (do_call2 ho (hk.at (List.mem_cons_of_mem _ (List.mem_cons_of_mem _ (List.mem_cons_of_mem _ (List.mem_cons_of_mem _ (List.mem_cons_self ..)))))) (hk.at (List.mem_cons_self ..)) (put64_enter _ _)) (bePutUint64_ok g (off + 2) (10 - 2) (10 - 2) lo _ tg _ (G2.kept hbd) (by decide) (by rw [length_splice _ _ _ (by rw [bvs_length, be_length]; omega)]; omega)) ?_
  rintro e w3 ⟨rfl, G3, g3⟩
  refine ⟨_, rfl, ?_⟩
  rw [hd]
  refine keep_k (v := .tuple #[]) hk (by decide) (by repeat' (first | exact far_nil _ | refine far_cons (by decide) ?_)) ?_
  clear hk; intro a hk
  show wpPlan _ OPS _ (fun w' => Below w2.heap.size w2 w') (planOps2 _ _) _ _
  refine plan_k0 ?_
  refine bodyPost_end (results_none rfl _ _ _) hk.2.1 ?_
  have e1 : splice (splice cur off (bvs (be 2 hi))) (off + 2) (bvs (be 8 lo)) = splice cur off (bvs (be 2 hi ++ be 8 lo)) := by
    rw [bvs_append]
    exact splice_splice cur off _ _ 2 (by rw [bvs_length, be_length]) (by rw [bvs_length, be_length]; omega)
  rw [e1] at G3
  exact ⟨rfl, G3, grown_trans gd2 (grown_trans (grown_below hbd (some g)) g3)⟩
theorem do_call1 {P : Program} {a : Act} {w : World} {o : Oper} {f : FuncId} {x : Operand} {ts : Array TypeId} (ho : o.op = .call { callee := .value (.func f), args := #[x], argTypes := ts }) {u : Value} (hx : a.eval x = u) (hf : ∀ w, (callFunc f #[u]).run P w = .ok (.enter f #[u]) w) : (execOp a.eval o).run P w = .ok (.enter f #[u]) w := by
  have hm : (#[x].map a.eval) = #[u] := by simp [hx]
  unfold execOp
  simp only [ho, hm]
  have := hf w
  go_simp
theorem be16_enter (u : Value) (w : World) : (callFunc 46 #[u]).run Try.prog w = .ok (.enter 46 #[u]) w := by
  have h := Try.func46
  go_simp
theorem be64_enter (u : Value) (w : World) : (callFunc 47 #[u]).run Try.prog w = .ok (.enter 47 #[u]) w := by
  have h := Try.func47
  go_simp
theorem rd_drop {w : World} {b off : Nat} {bs : List UInt8} (h : Rd w (some ⟨b, off, none⟩) bs) (k : Nat) (hk : k < bs.length) : Rd w (some ⟨b, off + k, none⟩) (bs.drop k) := by
  refine ⟨by rw [List.length_drop]; have := h.1; omega, ?_⟩
  rcases h.2 with rfl | ⟨b', o', he, hc⟩
  · simp at hk
  · obtain ⟨rfl, rfl⟩ : b = b' ∧ off = o' := by simpa using he
    refine .inr ⟨b, off + k, rfl, fun i hi => ?_⟩
    rw [List.length_drop] at hi
    rw [Nat.add_assoc, hc (k + i) (by omega)]
    simp [B, List.getElem?_drop]
set_option maxRecDepth 100000 in
theorem uSet_ok (gm gs ms inc E0 : Nat) (rnd : List UInt8) (t : TypeId) (g off : Nat) (ys : List UInt8) (w : World) (hB0 : Blk w gm (mE gs ms inc E0 rnd) t) (hr8 : rnd.length = 8) (hr : Rd w (some ⟨g, off, none⟩) ys) (hl : ys.length = 10) (hne : g ≠ gm) :
    Calls Try.prog 41 #[.pointer (some ⟨gm, 3, none⟩), .slice (some ⟨g, off, none⟩) 10 10] w fun e w' => e = .returned (.tuple #[]) ∧ Blk w' gm (mE gs ms inc (num ys) rnd) t ∧ w.grownBy w' (some gm) := by
  have hB : Blk w gm (mC gs ms inc (E0 / 18446744073709551616) (E0 % 18446744073709551616) rnd) t := hB0
  clear hB0
  generalize E0 / 18446744073709551616 = hi at *
  generalize E0 % 18446744073709551616 = lo at *
  have hl2 : (ys.take 2).length = 2 := by rw [List.length_take]; omega
  have hl8 : (ys.drop 2).length = 8 := by rw [List.length_drop]; omega
  have hn8 : num (ys.drop 2) < 18446744073709551616 := by have := num_lt (ys.drop 2); rw [hl8] at this; exact this
  have hna : num ys = num (ys.take 2) * 18446744073709551616 + num (ys.drop 2) := by
    have := num_append (ys.take 2) (ys.drop 2)
    rw [List.take_append_drop, hl8] at this
    exact this
  have hnum1 : num ys / 18446744073709551616 = num (ys.take 2) := by omega
  have hnum2 : num ys % 18446744073709551616 = num (ys.drop 2) := by omega
  go_enter Try.func41, Try.ntmps41
  refine of_keeps 16 [(1, .slice (some ⟨g, off, none⟩) 10 10), (0, .pointer (some ⟨gm, 3, none⟩))] ⟨by kernel_rfl, rfl, fun x hx => by simp at hx; rcases hx with rfl | rfl <;> rfl⟩ fun a hk => ?_
  refine wp_seq_k fun K0 hK0 => ?_
  refine wp_region_lit ?_
  refine list_k rfl rfl hk (by decide) (by repeat' (first | exact far_nil _ | refine far_cons (by decide) ?_)) (v := .pointer (some ⟨gm, 3, none⟩)) (do_move rfl (hk.at (List.mem_cons_of_mem _ (List.mem_cons_self ..)))) ?_
  clear hk; intro a hk
  refine list_k rfl rfl hk (by decide) (by repeat' (first | exact far_nil _ | refine far_cons (by decide) ?_)) (v := .slice (some ⟨g, off, none⟩) 10 10) (do_move rfl (hk.at (List.mem_cons_of_mem _ (List.mem_cons_self ..)))) ?_
  clear hk; intro a hk
  refine list_k rfl rfl hk (by decide) (by repeat' (first | exact far_nil _ | refine far_cons (by decide) ?_)) (v := .slice (some ⟨g, off, none⟩) 2 10) ((do_headB (k := 2) rfl Try.underlying28 (by kernel_rfl) (hk.at (List.mem_cons_self ..)) rfl rfl (by decide) (by decide))) ?_
  clear hk; intro a hk
  refine wp_call rfl (do_call1 rfl (hk.at (List.mem_cons_self ..)) (be16_enter _)) (beUint16_ok g off 2 10 (ys.take 2) _ (hr.take 2) hl2 (by decide)) ?_
  rintro e w2 ⟨rfl, rfl⟩
  refine ⟨_, rfl, ?_⟩
  refine keep_k (v := .int .u16 ((num (ys.take 2) : Nat) : Int)) hk (by decide) (by repeat' (first | exact far_nil _ | refine far_cons (by decide) ?_)) ?_
  clear hk; intro a hk
  refine list_k rfl rfl hk (by decide) (by repeat' (first | exact far_nil _ | refine far_cons (by decide) ?_)) (v := .pointer (some ⟨gm, 3, none⟩)) (do_nilc rfl (hk.at (List.mem_cons_of_mem _ (List.mem_cons_of_mem _ (List.mem_cons_of_mem _ (List.mem_cons_self ..)))))) ?_
  clear hk; intro a hk
  refine list_k rfl rfl hk (by decide) (by repeat' (first | exact far_nil _ | refine far_cons (by decide) ?_)) (v := .pointer (some ⟨gm, 3, none⟩)) (do_fld51_0 rfl (hk.at (List.mem_cons_self ..))) ?_
  clear hk; intro a hk
  refine wp_store_cell rfl rfl (by kernel_rfl) (hk.at (List.mem_cons_self ..)) (hk.at (List.mem_cons_of_mem _ (List.mem_cons_of_mem _ (List.mem_cons_self ..)))) rfl hB (by rw [mC_length hr8]; decide) fun w3 b3 g3 s3 => ?_
  refine keep_0 hk ?_
  clear hk; intro a hk
  refine hK0 _ _ ?_
  clear hK0
  have hr3 : Rd w3 (some ⟨g, off, none⟩) ys := hr.grown g3 (fun q hq => by cases hq; intro e; exact hne (Option.some.inj e))
  have hr38 := rd_drop hr3 2 (by omega)
  have b3' : Blk w3 gm (mC gs ms inc (num (ys.take 2)) (lo) rnd) t := b3
  have hk2 : Keeps 16 ([(1, .slice (some ⟨g, off, none⟩) 10 10), (0, .pointer (some ⟨gm, 3, none⟩))]) a := by
    refine ⟨hk.1, hk.2.1, fun x hx => hk.2.2 x ?_⟩
    rcases List.mem_cons.1 hx with rfl | hx
    · exact List.mem_cons_of_mem _ (List.mem_cons_of_mem _ (List.mem_cons_of_mem _ (List.mem_cons_of_mem _ (List.mem_cons_of_mem _ (List.mem_cons_of_mem _ (List.mem_cons_self ..))))))
    rcases List.mem_cons.1 hx with rfl | hx
    · exact List.mem_cons_of_mem _ (List.mem_cons_of_mem _ (List.mem_cons_of_mem _ (List.mem_cons_of_mem _ (List.mem_cons_of_mem _ (List.mem_cons_of_mem _ (List.mem_cons_of_mem _ (List.mem_cons_self ..)))))))
    cases hx
  clear hk
  have hk := hk2
  clear hk2
  refine wp_region_lit ?_
  refine list_k rfl rfl hk (by decide) (by repeat' (first | exact far_nil _ | refine far_cons (by decide) ?_)) (v := .pointer (some ⟨gm, 3, none⟩)) (do_move rfl (hk.at (List.mem_cons_of_mem _ (List.mem_cons_self ..)))) ?_
  clear hk; intro a hk
  refine list_k rfl rfl hk (by decide) (by repeat' (first | exact far_nil _ | refine far_cons (by decide) ?_)) (v := .slice (some ⟨g, off, none⟩) 10 10) (do_move rfl (hk.at (List.mem_cons_of_mem _ (List.mem_cons_self ..)))) ?_
  clear hk; intro a hk
  refine list_k rfl rfl hk (by decide) (by repeat' (first | exact far_nil _ | refine far_cons (by decide) ?_)) (v := .slice (some ⟨g, off + 2, none⟩) (10 - 2) (10 - 2)) ((do_tailB (k := 2) rfl Try.underlying28 (by kernel_rfl) (hk.at (List.mem_cons_self ..)) rfl rfl (by decide) (by decide))) ?_
  clear hk; intro a hk
  refine wp_call rfl (do_call1 rfl (hk.at (List.mem_cons_self ..)) (be64_enter _)) (beUint64_ok g (off + 2) (10 - 2) (10 - 2) (ys.drop 2) _ hr38 hl8 (by decide)) ?_
  rintro e w4 ⟨rfl, rfl⟩
  refine ⟨_, rfl, ?_⟩
  refine keep_k (v := .int .u64 ((num (ys.drop 2) : Nat) : Int)) hk (by decide) (by repeat' (first | exact far_nil _ | refine far_cons (by decide) ?_)) ?_
  clear hk; intro a hk
  refine list_k rfl rfl hk (by decide) (by repeat' (first | exact far_nil _ | refine far_cons (by decide) ?_)) (v := .pointer (some ⟨gm, 3, none⟩)) (do_nilc rfl (hk.at (List.mem_cons_of_mem _ (List.mem_cons_of_mem _ (List.mem_cons_of_mem _ (List.mem_cons_self ..)))))) ?_
  clear hk; intro a hk
  refine list_k rfl rfl hk (by decide) (by repeat' (first | exact far_nil _ | refine far_cons (by decide) ?_)) (v := .pointer (some ⟨gm, 3 + 1, none⟩)) (do_fld51_1 rfl (hk.at (List.mem_cons_self ..))) ?_
  clear hk; intro a hk
  refine wp_store_cell rfl rfl (by kernel_rfl) (hk.at (List.mem_cons_self ..)) (hk.at (List.mem_cons_of_mem _ (List.mem_cons_of_mem _ (List.mem_cons_self ..)))) rfl b3' (by rw [mC_length hr8]; decide) fun w5 b5 g5 s5 => ?_
  refine keep_0 hk ?_
  clear hk; intro a hk
  refine bodyPost_end (results_none rfl _ _ _) hk.2.1 ?_
  have e : mE gs ms inc (num ys) rnd = (mC gs ms inc (num (ys.take 2)) (num (ys.drop 2)) rnd) := by
    unfold mE
    rw [hnum1, hnum2]
  rw [e]
  exact ⟨rfl, b5, grown_trans g3 g5⟩
theorem u80Arr : Arr Try.prog 51 2 [.int .u16 0, .int .u64 0] where
  und := ⟨_, Try.underlying51, rfl⟩
  size := by kernel_rfl
  zero := fun w => by kernel_rfl
  len := rfl
set_option maxRecDepth 100000 in
theorem uZero_ok (hi lo : Nat) (w : World) :
    Calls Try.prog 39 #[.agg [.int .u16 (hi : Int), .int .u64 (lo : Int)].toArray] w fun e w' => e = .returned (.bool (decide (hi = 0 ∧ lo = 0))) ∧ Below w.heap.size w w' := by
  have hb := Below.refl w.heap.size w
  by_cases h1 : hi = 0
  · have e1 : ((hi : Int) == 0) = true := by simp [h1]
    by_cases h2 : lo = 0
    · have e2 : ((lo : Int) == 0) = true := by simp [h2]
      have HH := Lib.hid (And.intro h1 h2)
      clear h1 h2
      go_enter Try.func39, Try.ntmps39
      go_wp2_with (refine wp_box_blk u80Arr hb rfl rfl rfl rfl (Nat.le_refl _) ?_)
      intro w1 b1 g1 s1 hb1
      clear s1
      have c0 := b1.cell 0
      have c1 := b1.cell 1
      simp at c0 c1
      go_wp2
      go_ret
      exact ⟨by rw [decide_eq_true HH.out]; rfl, hb1⟩
    · have e2 : ((lo : Int) == 0) = false := by rw [beq_eq_false_iff_ne]; omega
      have HH : Hid (¬ (hi = 0 ∧ lo = 0)) := Lib.hid (fun h => h2 h.2)
      clear h1 h2
      go_enter Try.func39, Try.ntmps39
      go_wp2_with (refine wp_box_blk u80Arr hb rfl rfl rfl rfl (Nat.le_refl _) ?_)
      intro w1 b1 g1 s1 hb1
      clear s1
      have c0 := b1.cell 0
      have c1 := b1.cell 1
      simp at c0 c1
      go_wp2
      go_ret
      exact ⟨by rw [decide_eq_false HH.out]; rfl, hb1⟩
  · have e1 : ((hi : Int) == 0) = false := by rw [beq_eq_false_iff_ne]; omega
    have HH : Hid (¬ (hi = 0 ∧ lo = 0)) := Lib.hid (fun h => h1 h.1)
    clear h1
    go_enter Try.func39, Try.ntmps39
    go_wp2_with (refine wp_box_blk u80Arr hb rfl rfl rfl rfl (Nat.le_refl _) ?_)
    intro w1 b1 g1 s1 hb1
    clear s1
    have c0 := b1.cell 0
    simp at c0
    go_wp2
    go_ret
    exact ⟨by rw [decide_eq_false HH.out]; rfl, hb1⟩
end Go.Proofs.Ytcojcohipmoopaa
