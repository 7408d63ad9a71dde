/- The text of a KSUID: String, and the thin package's KsuidText. -/
import Derived.Test.YtjmmkjdlkecmhaaEnc
namespace Go.Proofs.Ytjmmkjdlkecmhaa
open Go.RowKit

/-- make of a slice of zeros with room. -/
theorem wp_make_room {P : Program} {ops : Array Oper} {rest : List Oper} {o : Oper} {a : Act} {w : World} {Q : Exit → Act → World → Prop} (hgd : o.guard = none) {l c : Operand} {t : TypeId} (hop : o.op = Op.makeSlice t l c)
    {e bytes : Nat} {z : Value} (ht : P.underlying t = some (.slice e)) (info : (P.info? e).map (fun i => (i.zero, i.size, i.bytes)) = some (some z, 1, bytes)) (hz : z.cells = #[z]) {m n : Nat} (hl : a.eval l = .int .i64 (m : Int)) (hc : a.eval c = .int .i64 (n : Int)) (hmn : m ≤ n) (hn : bytes * n ≤ 281474976710656) (hm : n ≤ 9223372036854775807)
    (h : ∀ w', Blk w' w.heap.size (List.replicate n z) e → w.grownBy w' none → w'.heap.size = w.heap.size + 1 → wpList P ops Q rest (a.put o.dst (.slice (some ⟨w.heap.size, 0, none⟩) m n)) w') : wpList P ops Q (o :: rest) a w := by
  obtain ⟨i, hi, hz0, hz1, hz2⟩ := info_parts info
  refine wpList_plain hgd fun K hK => ?_
  have hrun := run_make (P := P) w t e i z ht hi hz0 .i64 .i64 m n (by omega) (by omega) (by rw [hz2]; omega) (by omega)
  have hcells : madeCells z.cells ((n : Int).toNat * i.size) = (List.replicate n z).toArray := by
    rw [hz1, hz]
    apply Array.ext
    · simp [madeCells]
    · intro k h1 h2
      simp [madeCells, Nat.mod_one]
  rw [hcells] at hrun
  unfold Oper.wp
  simp [execOp, hop, hl, hc, hrun, Result.andThen]
  exact hK _ _ (by simpa using h _ (Blk.new w _ e) (World.grownBy_alloc w _ none) (by simp))

theorem ret_tmp2 {P : Program} {fn : Func} {w : World} {R : Ending → World → Prop} {a : Act} {t0 t1 : Tmp} (h : fn.results = #[.tmp t0, .tmp t1]) (hd : a.defers = []) {v0 v1 : Value}
    (h0 : a.tmps.getD t0 undef = v0) (h1 : a.tmps.getD t1 undef = v1)
    (hR : R (.returned (.tuple #[v0, v1])) w) : bodyPost P fn R .ret a w := by
  refine bodyPost_ret (v := .tuple #[v0, v1]) ?_ hd hR
  subst h0 h1
  simp [results, h]
theorem ret_tmp3 {P : Program} {fn : Func} {w : World} {R : Ending → World → Prop} {a : Act} {t0 t1 t2 : Tmp} (h : fn.results = #[.tmp t0, .tmp t1, .tmp t2]) (hd : a.defers = []) {v0 v1 v2 : Value}
    (h0 : a.tmps.getD t0 undef = v0) (h1 : a.tmps.getD t1 undef = v1) (h2 : a.tmps.getD t2 undef = v2)
    (hR : R (.returned (.tuple #[v0, v1, v2])) w) : bodyPost P fn R .ret a w := by
  refine bodyPost_ret (v := .tuple #[v0, v1, v2]) ?_ hd hR
  subst h0 h1 h2
  simp [results, h]
end Go.Proofs.Ytjmmkjdlkecmhaa
