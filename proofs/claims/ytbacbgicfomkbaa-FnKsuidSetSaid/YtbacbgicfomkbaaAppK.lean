/- Slices of KSUIDs that a call gathers: a literal of one, append of one. -/
import Derived.Test.YtbacbgicfomkbaaKSort
import Derived.Test.YtbacbgicfomkbaaListS
import Derived.Great.BuildSlice
namespace Go.Proofs.Ytbacbgicfomkbaa
open Go.RowKit
set_option linter.unusedVariables false
set_option linter.unusedSimpArgs false

section
variable {P : Program} {ops : Array Oper} {rest : List Oper} {o : Oper} {a : Act} {w : World} {Q : Exit → Act → World → Prop}
/-- A literal of one array or struct. -/
theorem wp_lit_one (hgd : o.guard = none) {t e : TypeId} {x : Operand} (ho : o.op = .buildSlice t 1 #[(0, x)]) (hu : P.underlying t = some (.slice e)) {ie : TypeInfo} {z : Value} {n : Nat} (hie : P.info? e = some ie) (hz : ie.zero = some z) (hs : ie.size = n) (h0 : 0 < n) (h1 : n ≤ 1000)
    {mid : List Value} (hx : a.eval x = .agg mid.toArray) (hl : mid.length = n)
    (h : ∀ w', Blk w' w.heap.size mid e → w.grownBy w' none → w'.heap.size = w.heap.size + 1 → wpList P ops Q rest (a.put o.dst (.slice (some ⟨w.heap.size, 0, none⟩) 1 1)) w') : wpList P ops Q (o :: rest) a w := by
  refine wpList_buildSlice hgd t e 1 #[(0, x)] ho mid.toArray ie z hu hie hz (by rw [hs]; omega) (by rw [hs]; omega) ?_ ?_
  · simp only [List.map_toArray, List.map_cons, List.map_nil, hx, Nat.one_mul, hs]
    have hsz : ((Array.range n).map (z.cells[· % z.cells.size]!)).size = n := by simp
    generalize (Array.range n).map (z.cells[· % z.cells.size]!) = C0 at *
    have hfold := fold_set 0 mid 0 C0 (by omega)
    simp only [Instr.fill, Value.cells, List.size_toArray]
    rw [if_neg (by simp [hl, hsz])]
    congr 1
    apply Array.toList_inj.1
    have e : mid.toArray.zipIdx = (mid.zipIdx).toArray := by simp
    rw [e, List.foldl_toArray]
    refine Eq.trans (by simpa using hfold) ?_
    simp [splice, hl, hsz]
  · exact h _ (Blk.new w mid e) (World.grownBy_alloc w _ none) (by simp)

/-- One value of many cells appended to a slice of the call's own. -/
theorem wp_append_wide1 (hgd : o.guard = none) {s x : Operand} {t : TypeId}
    (ho : o.op = .call { callee := .builtin .append, args := #[s, x], argTypes := #[t, t] }) {base e bytes size : Nat} {z : Value} (ht : P.underlying t = some (.slice e)) (info : (P.info? e).map (fun i => (i.zero, i.size, i.bytes)) = some (some z, size, bytes)) (hz : z.cells.size = size) (hsz : 0 < size)
    {g' : Nat} {mid : List Value} {t' : TypeId} (hx : a.eval x = .slice (some ⟨g', 0, none⟩) 1 1) (hB : Blk w g' mid t') (hm : mid.length = size) (h1 : ∀ u ∈ mid, u.oneCell' = true) {v : Value} {n : Nat} {xs : List Value} (hs : a.eval s = v) (hown : w.ownsRow base e size v n xs)
    (hlen : (n + 1) * bytes ≤ 140737488355328) (hmax : n + 1 ≤ 9223372036854775807) (hbase : base ≤ w.heap.size)
    (h : ∀ v' w', w'.ownsRow base e size v' (n + 1) (xs ++ mid) → w.grownBy w' v.ownBlock → wpList P ops Q rest (a.put o.dst v') w') : wpList P ops Q (o :: rest) a w := by
  obtain ⟨i, hi, hz0, hz1, hz2⟩ := info_parts info
  refine wpList_append_own _ hgd s x t ho base e i z size bytes ht hi hz0 hz1 hz2 hz hsz v n xs hs hown ⟨g', 0, none⟩ 1 1 mid hx (by omega) ?_ h1 (by unfold maxLen; omega) hlen hbase ?_
  · intro j u hj
    rw [Addr.add_mid, hB.cell, Nat.zero_add]
    exact hj
  · intro v' w' h2 h3 _
    exact h v' w' h2 h3
end
end Go.Proofs.Ytbacbgicfomkbaa
