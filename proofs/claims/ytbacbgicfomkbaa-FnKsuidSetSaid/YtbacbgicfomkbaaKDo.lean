/- What operations on arrays yield, over an abstract frame; KSUIDs compared with ==; calls. -/
import Derived.Test.YtbacbgicfomkbaaKU
import Derived.Test.YtbacbgicfomkbaaSets
import Derived.Test.YtbacbgicfomkbaaKSort
namespace Go.Proofs.Ytbacbgicfomkbaa
open Go.RowKit
set_option linter.unusedVariables false
set_option linter.unusedSimpArgs false
theorem ret_tmp1 {P : Program} {fn : Func} {w : World} {R : Ending → World → Prop} {a : Act} {t : Tmp} (h : fn.results = #[.tmp t]) (hd : a.defers = []) {v : Value} (hv : a.eval (.tmp t) = v) (hR : R (.returned v) w) : bodyPost P fn R .ret a w := by
  refine bodyPost_ret (v := v) ?_ hd hR
  subst hv
  simp only [results_tmp h]
  rfl
theorem eqItems_bvs (x y : List UInt8) (w : World) : ∀ (is : List Nat), (∀ i ∈ is, i < x.length ∧ i < y.length) → (Op.eqItems 9999 5 1 (bvs x).toArray (bvs y).toArray is).run Try.prog w = .ok (is.all fun i => decide (B x i = B y i)) w
  | [], _ => by simp [Op.eqItems]
  | i :: is, h => by
    have hp : Try.prog.plainKey 5 = true := by kernel_rfl
    have hi := h i (List.mem_cons_self ..)
    have ih := eqItems_bvs x y w is (fun j hj => h j (List.mem_cons_of_mem _ hj))
    have e1 := run_part_plain (P := Try.prog) w hp (xs := (bvs x).toArray) (off := i) (v := .int .u8 (B x i)) (by simpa using bvs_get x i hi.1)
    have e2 := run_part_plain (P := Try.prog) w hp (xs := (bvs y).toArray) (off := i) (v := .int .u8 (B y i)) (by simpa using bvs_get y i hi.2)
    have q1 := run_equalIn_int (P := Try.prog) w 9998 5 .u8 .u8 (B x i : Int) (B y i : Int) Try.underlying5
    have e : ((B x i : Int) == (B y i : Int)) = decide (B x i = B y i) := by rw [Bool.eq_iff_iff, beq_iff_eq, decide_eq_true_iff]; omega
    rw [e] at q1
    simp only [Op.eqItems, Sem.run_bind, Nat.mul_one, e1, e2, q1, Result.andThen_ok, List.all_cons]
    cases hx : decide (B x i = B y i)
    · simp
    · simpa using ih
theorem eq_of_B : ∀ (x y : List UInt8), x.length = y.length → (∀ i, i < x.length → B x i = B y i) → x = y
  | [], [], _, _ => rfl
  | [], _ :: _, h, _ => by simp at h
  | _ :: _, [], h, _ => by simp at h
  | a :: x, b :: y, h, hi => by
    have h0 := hi 0 (by simp)
    have e : a = b := UInt8.toNat_inj.1 h0
    rw [e, eq_of_B x y (by simpa using h) (fun i hi' => hi (i + 1) (by simpa using hi'))]
theorem all_B (n : Nat) (x y : List UInt8) (hx : x.length = n) (hy : y.length = n) : ((List.range n).all fun i => decide (B x i = B y i)) = decide (x = y) := by
  rw [Bool.eq_iff_iff, List.all_eq_true, decide_eq_true_iff]
  constructor
  · intro h
    exact eq_of_B x y (by omega) (fun j hj => by simpa using h j (List.mem_range.2 (by omega)))
  · rintro rfl j _
    simp
theorem eqK (x y : List UInt8) (hx : x.length = 20) (hy : y.length = 20) (w : World) : (Op.equalIn 10000 59 (.agg (bvs x).toArray) (.agg (bvs y).toArray)).run Try.prog w = .ok (decide (x = y)) w := by
  have hs : (Try.prog.info? 5).isSome = true := by kernel_rfl
  obtain ⟨i, hi⟩ := Option.isSome_iff_exists.1 hs
  have hc : Try.prog.cellsOf 5 = 1 := by kernel_rfl
  rw [run_equalIn_array w 9999 _ _ Try.underlying59 hi, hc, eqItems_bvs x y w _ (fun j hj => by have := List.mem_range.1 hj; omega), all_B 20 x y hx hy]
section
variable {a : Act} {w : World} {o : Oper} {x y : Operand} {t u : TypeId}
theorem do_eqA {xs ys : Array Value} {b : Bool} (ho : o.op = .binOp .eql t x y u) (hg : Try.prog.eqGuardType Try.prog.depth t = false) (hx : a.eval x = .agg xs) (hy : a.eval y = .agg ys) (hq : ∀ w, (Op.equalIn 10000 t (.agg xs) (.agg ys)).run Try.prog w = .ok b w) : (execOp a.eval o).run Try.prog w = .ok (.value (.bool b)) w := by
  have h := hq w
  have h2 : (Op.equal t (.agg xs) (.agg ys)).run Try.prog w = .ok b w := h
  unfold execOp
  simp only [ho, hx, hy]
  simp [Sem.run_bind, run_eqGuard_agg w .eql t x y xs ys hg, binOp, h2, Result.andThen]
theorem do_neA {xs ys : Array Value} {b : Bool} (ho : o.op = .binOp .neq t x y u) (hg : Try.prog.eqGuardType Try.prog.depth t = false) (hx : a.eval x = .agg xs) (hy : a.eval y = .agg ys) (hq : ∀ w, (Op.equalIn 10000 t (.agg xs) (.agg ys)).run Try.prog w = .ok b w) : (execOp a.eval o).run Try.prog w = .ok (.value (.bool (!b))) w := by
  have h := hq w
  have h2 : (Op.equal t (.agg xs) (.agg ys)).run Try.prog w = .ok b w := h
  unfold execOp
  simp only [ho, hx, hy]
  simp [Sem.run_bind, run_eqGuard_agg w .neq t x y xs ys hg, binOp, h2, Result.andThen]
end
section
variable {P : Program} {a : Act} {w : World} {o : Oper}
theorem do_ldA {ty n : Nat} {z : List Value} (T : Arr P ty n z) {x : Operand} (ho : o.op = .load ty x) {g : Nat} (hx : a.eval x = .pointer (some ⟨g, 0, none⟩)) {t : TypeId} {cs : List Value} (hg : Blk w g cs t) (hn : cs.length = n) : (execOp a.eval o).run P w = .ok (.value (.agg cs.toArray)) w :=
  still_blk (S := fun w' => Blk w' g cs t) T ho hx (fun _ h => h) hn w hg
theorem do_ldP {ty n : Nat} {z : List Value} (T : Arr P ty n z) {x : Operand} (ho : o.op = .load ty x) {g off : Nat} (hx : a.eval x = .pointer (some ⟨g, off, none⟩)) {t : TypeId} {cs mid : List Value} (hg : Blk w g cs t) (hm : (cs.drop off).take n = mid) (hn : mid.length = n) : (execOp a.eval o).run P w = .ok (.value (.agg mid.toArray)) w :=
  still_part (S := fun w' => Blk w' g cs t) T ho hx (fun _ h => h) hm hn w hg
/-- The place of an element of a slice, of whatever size. -/
theorem do_ixW {t e size : TypeId} {x y : Operand} (ho : o.op = .indexAddr t x y) (hu : P.underlying t = some (.slice e)) (hs : (P.info? e).map (·.size) = some size)
    {b off n c : Nat} (hx : a.eval x = .slice (some ⟨b, off, none⟩) n c) (i : Nat) (hy : a.eval y = .int .i64 (i : Int)) (hi : i < n) : (execOp a.eval o).run P w = .ok (.value (.pointer (some ⟨b, off + i * size, none⟩))) w := by
  cases hq : P.info? e with
  | none => simp [hq] at hs
  | some inf =>
    have hs1 : inf.size = size := by simpa [hq] using hs
    unfold execOp
    simp [ho, hx, hy, Instr.indexAt, run_underlying hu, asIntOf, sizeOf, typeInfo, hq, hs1, hi, Result.andThen, Addr.add]
theorem do_call1 {f : FuncId} {x : Operand} {ts : Array TypeId} (ho : o.op = .call { callee := .value (.func f), args := #[x], argTypes := ts }) {u : Value} (hx : a.eval x = u) (hf : ∀ w, (callFunc f #[u]).run P w = .ok (.enter f #[u]) w) : (execOp a.eval o).run P w = .ok (.enter f #[u]) w := by
  have hm : (#[x].map a.eval) = #[u] := by simp [hx]
  unfold execOp
  simp only [ho, hm]
  have := hf w
  go_simp
theorem do_call3 {f : FuncId} {x y z : Operand} {ts : Array TypeId} (ho : o.op = .call { callee := .value (.func f), args := #[x, y, z], argTypes := ts }) {u v s : Value} (hx : a.eval x = u) (hy : a.eval y = v) (hz : a.eval z = s) (hf : ∀ w, (callFunc f #[u, v, s]).run P w = .ok (.enter f #[u, v, s]) w) : (execOp a.eval o).run P w = .ok (.enter f #[u, v, s]) w := by
  have hm : (#[x, y, z].map a.eval) = #[u, v, s] := by simp [hx, hy, hz]
  unfold execOp
  simp only [ho, hm]
  have := hf w
  go_simp
theorem do_call4 {f : FuncId} {x y z p : Operand} {ts : Array TypeId} (ho : o.op = .call { callee := .value (.func f), args := #[x, y, z, p], argTypes := ts }) {u v s r : Value} (hx : a.eval x = u) (hy : a.eval y = v) (hz : a.eval z = s) (hp : a.eval p = r) (hf : ∀ w, (callFunc f #[u, v, s, r]).run P w = .ok (.enter f #[u, v, s, r]) w) : (execOp a.eval o).run P w = .ok (.enter f #[u, v, s, r]) w := by
  have hm : (#[x, y, z, p].map a.eval) = #[u, v, s, r] := by simp [hx, hy, hz, hp]
  unfold execOp
  simp only [ho, hm]
  have := hf w
  go_simp
end
theorem ent1_ts (u : Value) (w : World) : (callFunc 51 #[u]).run Try.prog w = .ok (.enter 51 #[u]) w := by
  have h := Try.func51
  go_simp
theorem ent1_pl (u : Value) (w : World) : (callFunc 60 #[u]).run Try.prog w = .ok (.enter 60 #[u]) w := by
  have h := Try.func60
  go_simp
theorem ent2_mk (u v : Value) (w : World) : (callFunc 59 #[u, v]).run Try.prog w = .ok (.enter 59 #[u, v]) w := by
  have h := Try.func59
  go_simp
theorem ent2_sub (u v : Value) (w : World) : (callFunc 69 #[u, v]).run Try.prog w = .ok (.enter 69 #[u, v]) w := by
  have h := Try.func69
  go_simp
theorem ent2_add (u v : Value) (w : World) : (callFunc 61 #[u, v]).run Try.prog w = .ok (.enter 61 #[u, v]) w := by
  have h := Try.func61
  go_simp
theorem ent1_inc (u : Value) (w : World) : (callFunc 64 #[u]).run Try.prog w = .ok (.enter 64 #[u]) w := by
  have h := Try.func64
  go_simp
theorem ent2_ks (u v : Value) (w : World) : (callFunc 62 #[u, v]).run Try.prog w = .ok (.enter 62 #[u, v]) w := by
  have h := Try.func62
  go_simp
theorem ent1_v32 (u : Value) (w : World) : (callFunc 65 #[u]).run Try.prog w = .ok (.enter 65 #[u]) w := by
  have h := Try.func65
  go_simp
theorem ent1_v64 (u : Value) (w : World) : (callFunc 68 #[u]).run Try.prog w = .ok (.enter 68 #[u]) w := by
  have h := Try.func68
  go_simp
theorem ent1_v128 (u : Value) (w : World) : (callFunc 67 #[u]).run Try.prog w = .ok (.enter 67 #[u]) w := by
  have h := Try.func67
  go_simp
theorem ent1_l32 (u : Value) (w : World) : (callFunc 76 #[u]).run Try.prog w = .ok (.enter 76 #[u]) w := by
  have h := Try.func76
  go_simp
theorem ent1_l64 (u : Value) (w : World) : (callFunc 81 #[u]).run Try.prog w = .ok (.enter 81 #[u]) w := by
  have h := Try.func81
  go_simp
theorem ent1_l128 (u : Value) (w : World) : (callFunc 78 #[u]).run Try.prog w = .ok (.enter 78 #[u]) w := by
  have h := Try.func78
  go_simp
theorem ent3_a32 (u v s : Value) (w : World) : (callFunc 77 #[u, v, s]).run Try.prog w = .ok (.enter 77 #[u, v, s]) w := by
  have h := Try.func77
  go_simp
theorem ent3_a64 (u v s : Value) (w : World) : (callFunc 82 #[u, v, s]).run Try.prog w = .ok (.enter 82 #[u, v, s]) w := by
  have h := Try.func82
  go_simp
theorem ent3_a128 (u v s : Value) (w : World) : (callFunc 79 #[u, v, s]).run Try.prog w = .ok (.enter 79 #[u, v, s]) w := by
  have h := Try.func79
  go_simp
theorem ent4_rl (u v s r : Value) (w : World) : (callFunc 80 #[u, v, s, r]).run Try.prog w = .ok (.enter 80 #[u, v, s, r]) w := by
  have h := Try.func80
  go_simp
theorem ent1_is (u : Value) (w : World) : (callFunc 40 #[u]).run Try.prog w = .ok (.enter 40 #[u]) w := by
  have h := Try.func40
  go_simp
theorem ent1_so (u : Value) (w : World) : (callFunc 41 #[u]).run Try.prog w = .ok (.enter 41 #[u]) w := by
  have h := Try.func41
  go_simp
theorem ent2_pu (u v : Value) (w : World) : (callFunc 66 #[u, v]).run Try.prog w = .ok (.enter 66 #[u, v]) w := by
  have h := Try.func66
  go_simp
end Go.Proofs.Ytbacbgicfomkbaa
