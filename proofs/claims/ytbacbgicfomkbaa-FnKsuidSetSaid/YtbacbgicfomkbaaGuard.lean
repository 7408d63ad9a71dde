/- Laws, over any program: an operation that only yields a value; one whose guard is a bool that is not decided; a byte of a text; an element of an array by value. -/
import Derived.Test.YtbacbgicfomkbaaStr
import Derived.Test.YtbacbgicfomkbaaCmp
namespace Go.Proofs.Ytbacbgicfomkbaa
open Go.RowKit
section
variable {P : Program} {ops : Array Oper} {rest : List Oper} {o : Oper} {a : Act} {w : World} {Q : Exit → Act → World → Prop}
/-- An operation that only yields a value. -/
theorem wp_val {v : Value} (hw : Region.wanted o (yielded ops a.tmps) = true) (hy : (execOp a.eval o).run P w = .ok (.value v) w) (h : wpList P ops Q rest (a.put o.dst v) w) : wpList P ops Q (o :: rest) a w :=
  wpList_wanted hw fun K hK => by unfold Oper.wp; rw [hy]; exact hK _ _ h
/-- The same, at the operation that writes slot d. -/
theorem wp_val_at {d : Tmp} (_hd : o.dst = some d) {v : Value} (hw : Region.wanted o (yielded ops a.tmps) = true) (hy : (execOp a.eval o).run P w = .ok (.value v) w) (h : wpList P ops Q rest (a.put o.dst v) w) : wpList P ops Q (o :: rest) a w := wp_val hw hy h
/-- The same behind a guard that is the bool c. -/
theorem wp_bif {c : Bool} {v : Value} (hw : Region.wanted o (yielded ops a.tmps) = c) (hy : c = true → (execOp a.eval o).run P w = .ok (.value v) w) (h : wpList P ops Q rest (a.put o.dst (bif c then v else undef)) w) : wpList P ops Q (o :: rest) a w := by
  refine wpList_step fun K hK => ?_
  cases c with
  | true => rw [if_pos hw]; unfold Oper.wp; rw [hy rfl]; exact hK _ _ h
  | false => rw [if_neg (by rw [hw]; decide)]; exact hK _ _ h
end
section
variable {P : Program}
theorem run_str_at {t : TypeId} (hu : P.underlying t = some .string) {p : List UInt8} {i : Nat} (hi : i < p.length) (w : World) : (Instr.index t (str p) (.int .i64 (i : Int))).run P w = .ok (.int .u8 (B p i : Nat)) w := by
  have e : (⟨p.toArray⟩ : ByteArray)[i]? = some p[i] := by
    have hs : i < (⟨p.toArray⟩ : ByteArray).size := by show i < p.toArray.size; simpa using hi
    rw [getElem?_pos _ i hs]
    congr 1
  unfold Instr.index str
  simp [asIntOf, run_underlying hu, Result.andThen, e, B, hi]
theorem still_str_at {S : World → Prop} {o : Oper} {a : Act} {t : TypeId} {x y : Operand} (ho : o.op = .index t x y) (hu : P.underlying t = some .string) {p : List UInt8} (hx : a.eval x = str p) (i : Nat)
    (hy : a.eval y = .int .i64 (i : Int)) (hi : i < p.length) : ∀ w', S w' → (execOp a.eval o).run P w' = .ok (.value (.int .u8 (B p i : Nat))) w' := by
  intro w' _
  unfold execOp
  simp only [ho, hx, hy, Sem.run_bind, run_str_at hu hi w', Result.andThen_ok, Sem.run_pure]
end
/-- make of a slice of zeros, behind a guard that holds. -/
theorem wp_make_zero_w {P : Program} {ops : Array Oper} {rest : List Oper} {o : Oper} {a : Act} {w : World} {Q : Exit → Act → World → Prop} (hgd : Region.wanted o (yielded ops a.tmps) = true) {l c : Operand} {t : TypeId} (hop : o.op = Op.makeSlice t l c)
    {e bytes : Nat} {z : Value} (ht : P.underlying t = some (.slice e)) (info : (P.info? e).map (fun i => (i.zero, i.size, i.bytes)) = some (some z, 1, bytes)) (hz : z.cells = #[z]) {n : Nat} (hl : a.eval l = .int .i64 (n : Int)) (hc : a.eval c = .int .i64 (n : Int)) (hn : bytes * n ≤ 281474976710656) (hm : n ≤ 9223372036854775807)
    (h : ∀ w', Blk w' w.heap.size (List.replicate n z) e → w.grownBy w' none → w'.heap.size = w.heap.size + 1 → wpList P ops Q rest (a.put o.dst (.slice (some ⟨w.heap.size, 0, none⟩) n n)) w') : wpList P ops Q (o :: rest) a w := by
  obtain ⟨i, hi, hz0, hz1, hz2⟩ := info_parts info
  refine wpList_wanted hgd fun K hK => ?_
  have hrun := run_make (P := P) w t e i z ht hi hz0 .i64 .i64 n n (by omega) (by omega) (by rw [hz2]; omega) (by omega)
  have hcells : madeCells z.cells ((n : Int).toNat * i.size) = (List.replicate n z).toArray := by
    rw [hz1, hz]
    apply Array.ext
    · simp [madeCells]
    · intro k h1 h2
      simp [madeCells, Nat.mod_one]
  rw [hcells] at hrun
  unfold Oper.wp
  simp [execOp, hop, hl, hc, hrun, Result.andThen]
  exact hK _ _ (by simpa using h _ (Blk.new w _ e) (World.grownBy_alloc w _ none) (by simp))
end Go.Proofs.Ytbacbgicfomkbaa
