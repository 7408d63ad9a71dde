/- Laws for byte slices and for arrays by value, over any program: append of a byte slice, copy into a whole array, results that lie in memory. -/
import Derived.Test.YtbacbgicfomkbaaBase
import Derived.Deep.MidRow
import Derived.Deep.WholeRow
import Derived.Laws.CopyOwn
import Derived.Laws.ResultCell
namespace Go.Proofs.Ytbacbgicfomkbaa
open Go.RowKit

/-- A byte as a value. -/
def bv (b : UInt8) : Value := .int .u8 b.toNat
/-- Bytes as values. -/
def bvs (bs : List UInt8) : List Value := bs.map bv
theorem bvs_length (bs : List UInt8) : (bvs bs).length = bs.length := by simp [bvs]
theorem bvs_one (bs : List UInt8) : ∀ u ∈ bvs bs, u.oneCell' = true := by
  intro u hu
  obtain ⟨_, _, rfl⟩ := List.mem_map.1 hu
  rfl
theorem bvs_append (a b : List UInt8) : bvs (a ++ b) = bvs a ++ bvs b := by simp [bvs]
theorem bvs_get (bs : List UInt8) (i : Nat) (h : i < bs.length) : (bvs bs)[i]? = some (.int .u8 (B bs i)) := by
  simp [bvs, bv, B, h]

/-- A block of cells, none of them frozen. -/
def Blk (w : World) (g : Nat) (cs : List Value) (t : TypeId) : Prop := w.heap[g]? = some (.cells cs.toArray t (0, 0))

theorem Blk.lt {w : World} {g : Nat} {cs : List Value} {t : TypeId} (h : Blk w g cs t) : g < w.heap.size := (Array.getElem?_eq_some_iff.1 h).1
theorem Blk.cell {w : World} {g : Nat} {cs : List Value} {t : TypeId} (h : Blk w g cs t) (i : Nat) : w.cell? ⟨g, i, none⟩ = cs[i]? := by
  rw [cell_of_row w g i _ t _ h]; simp
theorem Blk.free {w : World} {g : Nat} {cs : List Value} {t : TypeId} (h : Blk w g cs t) (i : Nat) : w.frozen? ⟨g, i, none⟩ = false := frozen_of_row w g i _ t h
theorem Blk.rd {w : World} {g : Nat} {bs : List UInt8} {t : TypeId} (h : Blk w g (bvs bs) t) (hl : bs.length ≤ 9223372036854775807) : Rd w (some ⟨g, 0, none⟩) bs :=
  ⟨hl, .inr ⟨g, 0, rfl, fun i hi => by rw [h.cell, Nat.zero_add, bvs_get bs i hi]⟩⟩
theorem Blk.new (w : World) (cs : List Value) (t : TypeId) : Blk (w.alloc (.cells cs.toArray t)) w.heap.size cs t := heap_alloc_new w _
theorem Blk.kept {w w' : World} {g : Nat} {cs : List Value} {t : TypeId} (h : Blk w g cs t) (hb : Below w.heap.size w w') : Blk w' g cs t := (hb.block g h.lt).trans h
theorem Blk.keptB {w w' : World} {g b : Nat} {cs : List Value} {t : TypeId} (h : Blk w g cs t) (hb : Below b w w') (hg : g < b) : Blk w' g cs t := (hb.block g hg).trans h
theorem Blk.grown {w w' : World} {g : Nat} {row : Option Nat} {cs : List Value} {t : TypeId} (h : Blk w g cs t) (hb : w.grownBy w' row) (hg : some g ≠ row) : Blk w' g cs t := (hb.block g h.lt hg).trans h

/-- A byte slice reads on where no block has turned. -/
theorem Rd.kept {w w' : World} {a : Option Addr} {bs : List UInt8} (h : Rd w a bs) (hb : Below w.heap.size w w') : Rd w' a bs := by
  refine ⟨h.1, ?_⟩
  rcases h.2 with h0 | ⟨b, off, ha, hc⟩
  · exact .inl h0
  · refine .inr ⟨b, off, ha, fun i hi => ?_⟩
    have := hc i hi
    rw [hb.cell (World.block_lt_of_cell? w _ this)]
    exact this
theorem Rd.grown {w w' : World} {a : Option Addr} {bs : List UInt8} {row : Option Nat} (h : Rd w a bs) (hb : w.grownBy w' row) (hr : ∀ x, a = some x → some x.block ≠ row) : Rd w' a bs := by
  refine ⟨h.1, ?_⟩
  rcases h.2 with h0 | ⟨b, off, ha, hc⟩
  · exact .inl h0
  · exact .inr ⟨b, off, ha, fun i hi => hb.cell (hc i hi) (by have := hr _ ha; exact this)⟩


/-- The source of a copy, cell by cell. -/
theorem Rd.src {w : World} {a : Option Addr} {bs : List UInt8} (h : Rd w a bs) (hp : 0 < bs.length) : ∃ ad, a = some ad ∧ ∀ j v, (bvs bs)[j]? = some v → w.cell? (ad.add j) = some v := by
  rcases h.2 with rfl | ⟨b, off, rfl, hc⟩
  · simp at hp
  · refine ⟨_, rfl, fun j v hv => ?_⟩
    have hj : j < bs.length := by have := (List.getElem?_eq_some_iff.1 hv).1; simpa [bvs] using this
    rw [Addr.add_mid, hc j hj, ← hv, bvs_get bs j hj]

/-- A type of arrays or structs: how many cells it has, and its zero. -/
structure Arr (P : Program) (ty n : Nat) (z : List Value) : Prop where
  und : ∃ d, P.underlying ty = some d ∧ d.isRow = true
  size : (P.info? ty).map (·.size) = some n
  zero : ∀ w, (zeroValue ty).run P w = .ok (.agg z.toArray) w
  len : z.length = n

section
variable {P : Program} {ops : Array Oper} {rest : List Oper} {o : Oper} {a : Act} {w : World} {Q : Exit → Act → World → Prop} {ty n : Nat} {z : List Value} {B0 : Nat} {w0 : World}

theorem below_put {g : Nat} (hb : Below B0 w0 w) (hB : B0 ≤ g) (cs : Array Value) : Below B0 w0 (w.setRow g cs) := below_setRow hb hB cs

/-- copy of a whole byte slice into a block of the same length. -/
theorem wp_copy_all (hb : Below B0 w0 w) (hgd : o.guard = none) {d s : Operand} {dT sT : TypeId}
    (ho : o.op = .call { callee := .builtin .copy, args := #[d, s], argTypes := #[dT, sT] }) {elem : TypeId} (hu : P.underlying dT = some (.slice elem)) (hsz : (P.info? elem).map (·.size) = some 1)
    {g : Nat} {sp : Option Addr} {n dLen dCap sLen sCap : Nat} (hd : a.eval d = .slice (some ⟨g, 0, none⟩) dLen dCap) (hs : a.eval s = .slice sp sLen sCap)
    {cur : List Value} {t : TypeId} (hg : Blk w g cur t) (bs : List UInt8) (hr : Rd w sp bs) (hB : B0 ≤ g) (hdl : dLen = n) (hsl : sLen = n) (hn : cur.length = n) (hbs : bs.length = n)
    (h : ∀ w', Blk w' g (bvs bs) t → w.grownBy w' (some g) → w'.heap.size = w.heap.size → Below B0 w0 w' → wpList P ops Q rest (a.put o.dst (.int .i64 n)) w') :
    wpList P ops Q (o :: rest) a w := by
  subst hdl; subst hsl
  by_cases h0 : sLen = 0
  · subst h0
    obtain rfl : bs = [] := List.eq_nil_of_length_eq_zero hbs
    obtain rfl : cur = [] := List.eq_nil_of_length_eq_zero hn
    refine wpList_copy_nothing hgd d s dT sT ho elem hu hsz _ _ _ _ _ _ hd hs (by simp) ?_
    exact h w hg (World.grownBy.refl _ _) rfl hb
  · obtain ⟨ad, rfl, hsrc⟩ := hr.src (by omega)
    refine wpList_copy_own hgd d s dT sT ho elem hu hsz g 0 _ _ ad _ _ hd hs cur.toArray t hg (bvs bs) (by simp [bvs_length, hbs]) hsrc (by simp [bvs_length, hbs, hn]) (bvs_one bs) ?_
    have e : (cur.toArray.toList.take 0 ++ (bvs bs ++ cur.toArray.toList.drop (0 + (bvs bs).length))).toArray = (bvs bs).toArray := by
      simp [bvs_length, hbs, hn]
    rw [e]
    have e2 : goInt (bvs bs).length = .int .i64 sLen := by simp [goInt, bvs_length, hbs]
    rw [e2]
    exact h _ (setRow_heap w g _ _ t _ hg) ⟨rfl, rfl, rfl, by simp, fun k _ hk => setRow_other w g k _ (by simpa using hk)⟩ (by simp) (below_put hb hB _)

/-- A whole array read out of its block. -/
theorem wp_load_blk (T : Arr P ty n z) (hgd : o.guard = none) {x : Operand} (ho : o.op = .load ty x)
    {g : Nat} (hx : a.eval x = .pointer (some ⟨g, 0, none⟩)) {t : TypeId} {cs : List Value} (hg : Blk w g cs t) (hn : cs.length = n)
    (h : wpList P ops Q rest (a.put o.dst (.agg cs.toArray)) w) : wpList P ops Q (o :: rest) a w := by
  obtain ⟨d, hu, hd⟩ := T.und
  exact wpList_load_row hgd ty x ho g hx t cs.toArray (0, 0) d hg hu (by cases d <;> first | rfl | (simp [TypeDesc.isRow] at hd)) (by rw [T.size]; simp [hn]) h

/-- A whole array stored into its block. -/
theorem wp_store_blk (T : Arr P ty n z) (hb : Below B0 w0 w) (hgd : o.guard = none) {x y : Operand} (ho : o.op = .store ty x y)
    {g : Nat} (hx : a.eval x = .pointer (some ⟨g, 0, none⟩)) {cs : List Value} (hy : a.eval y = .agg cs.toArray)
    {t : TypeId} {old : List Value} (hg : Blk w g old t) (hB : B0 ≤ g) (hold : old.length = n) (hn : cs.length = n) (h1 : ∀ u ∈ cs, u.oneCell' = true)
    (h : ∀ w', Blk w' g cs t → w.grownBy w' (some g) → w'.heap.size = w.heap.size → Below B0 w0 w' → wpList P ops Q rest (a.put o.dst undef) w') : wpList P ops Q (o :: rest) a w :=
  wpList_plain hgd fun _ hK => wp_store_row ty x y ho g cs.toArray hx hy t old.toArray hg (by rw [T.size]; simp [hn]) (by simp [hn, hold]) (all_oneCell_toArray h1)
    (hK _ _ (h _ (setRow_heap w g _ _ t _ hg) ⟨rfl, rfl, rfl, by simp, fun k _ hk => setRow_other w g k _ (by simpa using hk)⟩ (by simp) (below_put hb hB _)))

/-- A new array variable. -/
theorem wp_alloc_blk (T : Arr P ty n z) (hb : Below B0 w0 w) (hgd : o.guard = none) (ho : o.op = .alloc ty) {N : Nat} (hN : w.heap.size = N) (hB : B0 ≤ N)
    (h : ∀ w', Blk w' N z ty → w.grownBy w' none → w'.heap.size = N + 1 → Below B0 w0 w' → wpList P ops Q rest (a.put o.dst (.pointer (some ⟨N, 0, none⟩))) w') : wpList P ops Q (o :: rest) a w := by
  subst hN
  refine wpList_plain hgd fun K hK => ?_
  unfold Oper.wp execOp
  simp only [ho, Instr.alloc, Sem.run_bind, T.zero w, Result.andThen_ok]
  exact hK _ _ (h _ (Blk.new w z ty) (World.grownBy_alloc w _ none) (by simp) (hb.alloc hB _))

/-- An array parameter or local that is laid into memory. -/
theorem wp_box_blk (_T : Arr P ty n z) (hb : Below B0 w0 w) (hgd : o.guard = none) {x : Operand} (ho : o.op = .box ty x)
    {cs : List Value} (hx : a.eval x = .agg cs.toArray) {N : Nat} (hN : w.heap.size = N) (hB : B0 ≤ N)
    (h : ∀ w', Blk w' N cs ty → w.grownBy w' none → w'.heap.size = N + 1 → Below B0 w0 w' → wpList P ops Q rest (a.put o.dst (.pointer (some ⟨N, 0, none⟩))) w') : wpList P ops Q (o :: rest) a w := by
  subst hN
  refine wpList_plain hgd fun K hK => ?_
  unfold Oper.wp execOp
  simp only [ho, Instr.box, newVar, Value.cells, Sem.run_bind, hx]
  exact hK _ _ (h _ (Blk.new w cs ty) (World.grownBy_alloc w _ none) (by simp) (hb.alloc hB _))
end

theorem grown_trans {x y u : World} {r : Option Nat} (h1 : x.grownBy y r) (h2 : y.grownBy u r) : x.grownBy u r :=
  ⟨h2.os.trans h1.os, h2.tape.trans h1.tape, h2.output.trans h1.output, Nat.le_trans h1.size h2.size, fun k hk hr => (h2.block k (Nat.lt_of_lt_of_le hk h1.size) hr).trans (h1.block k hk hr)⟩
theorem grown_new {x y u : World} {r : Option Nat} {N : Nat} (h1 : x.grownBy y r) (h2 : y.grownBy u (some N)) (hN : x.heap.size ≤ N) : x.grownBy u r :=
  ⟨h2.os.trans h1.os, h2.tape.trans h1.tape, h2.output.trans h1.output, Nat.le_trans h1.size h2.size, fun k hk hr => (h2.block k (Nat.lt_of_lt_of_le hk h1.size) (by intro e; have := Option.some.inj e; omega)).trans (h1.block k hk hr)⟩
theorem grown_then {x y u : World} {r : Option Nat} (h1 : x.grownBy y r) (h2 : Below y.heap.size y u) : x.grownBy u r :=
  ⟨h2.os.trans h1.os, h2.tape.trans h1.tape, h2.output.trans h1.output, Nat.le_trans h1.size h2.size, fun k hk hr => (h2.block k (Nat.lt_of_lt_of_le hk h1.size)).trans (h1.block k hk hr)⟩
theorem grown_none {x y : World} (h : x.grownBy y none) (r : Option Nat) : x.grownBy y r := ⟨h.os, h.tape, h.output, h.size, fun k hk _ => h.block k hk (by simp)⟩
theorem grown_below {x y : World} (h : Below x.heap.size x y) (r : Option Nat) : x.grownBy y r := ⟨h.os, h.tape, h.output, h.size, fun k hk _ => h.block k hk⟩
theorem below_grown {x y : World} (h : x.grownBy y none) : Below x.heap.size x y := ⟨h.os, h.tape, h.output, h.size, fun k hk => h.block k hk (by simp)⟩

section
variable {P : Program} {ops : Array Oper} {rest : List Oper} {o : Oper} {a : Act} {w : World} {Q : Exit → Act → World → Prop}
/-- One cell stored into a block. -/
theorem wp_store_cell (hgd : o.guard = none) {ty : TypeId} {x y : Operand} (ho : o.op = .store ty x y) (hs : (P.info? ty).map (·.size) = some 1)
    {g i : Nat} (hx : a.eval x = .pointer (some ⟨g, i, none⟩)) {v : Value} (hy : a.eval y = v) (h1 : v.oneCell' = true) {cs : List Value} {t : TypeId} (hg : Blk w g cs t) (hi : i < cs.length)
    (h : ∀ w', Blk w' g (cs.set i v) t → w.grownBy w' (some g) → w'.heap.size = w.heap.size → wpList P ops Q rest (a.put o.dst undef) w') : wpList P ops Q (o :: rest) a w := by
  refine wpList_plain hgd fun _ hK => ?_
  have hst := run_storeCells_at (P := P) g i t [v] 0 cs.toArray w hg (by simp; omega) (by simpa using h1)
  have e : (cs.toArray.toList.take (i + 0) ++ [v] ++ cs.toArray.toList.drop (i + 0 + [v].length)).toArray = (cs.set i v).toArray := by
    simp [List.set_eq_take_append_cons_drop, hi]
  rw [e] at hst
  have hv : v.cells = #[v] := by cases v <;> first | rfl | (simp [Value.oneCell'] at h1)
  unfold Oper.wp execOp
  cases hq : P.info? ty with
  | none => simp [hq] at hs
  | some inf =>
    have hsz : inf.size = 1 := by simpa [hq] using hs
    have hsv : (storeVar ty ⟨g, i, none⟩ v).run P w = .ok () (w.setRow g (cs.set i v).toArray) := by
      simp [storeVar, sizeOf, typeInfo, hq, hv, hsz, hst]
    simp only [ho, hx, hy, Instr.storeAt, Instr.sureAddr, Sem.run_bind, Sem.run_pure, Result.andThen_ok, hsv]
    exact hK _ _ (h _ (setRow_heap w g _ _ t _ hg) ⟨rfl, rfl, rfl, by simp, fun k _ hk => setRow_other w g k _ (by simpa using hk)⟩ (by simp))

/-- A part of a block read as an array or struct. -/
theorem wp_load_part {ty n : Nat} {z : List Value} (T : Arr P ty n z) (hgd : o.guard = none) {x : Operand} (ho : o.op = .load ty x)
    {g off : Nat} (hx : a.eval x = .pointer (some ⟨g, off, none⟩)) {t : TypeId} {cs : List Value} (hg : Blk w g cs t) {mid : List Value} (hm : (cs.drop off).take n = mid) (hn : mid.length = n)
    (h : wpList P ops Q rest (a.put o.dst (.agg mid.toArray)) w) : wpList P ops Q (o :: rest) a w := by
  obtain ⟨d, hu, hd⟩ := T.und
  refine wpList_load_mid hgd ty x ho g off hx mid d ?_ hu hd (by rw [T.size, hn]) h
  intro j v hv
  rw [hg.cell, ← hv, ← hm, List.getElem?_take, List.getElem?_drop, if_pos]
  have := (List.getElem?_eq_some_iff.1 hv).1
  omega

/-- An array or struct stored into a part of a block. -/
theorem wp_store_part {ty n : Nat} {z : List Value} (T : Arr P ty n z) (hgd : o.guard = none) {x y : Operand} (ho : o.op = .store ty x y)
    {g off : Nat} (hx : a.eval x = .pointer (some ⟨g, off, none⟩)) {mid : List Value} (hy : a.eval y = .agg mid.toArray) (hn : mid.length = n) (h1 : ∀ u ∈ mid, u.oneCell' = true)
    {t : TypeId} {cs : List Value} (hg : Blk w g cs t) (hfit : off + n ≤ cs.length)
    (h : ∀ w', Blk w' g (splice cs off mid) t → w.grownBy w' (some g) → w'.heap.size = w.heap.size → wpList P ops Q rest (a.put o.dst undef) w') : wpList P ops Q (o :: rest) a w := by
  refine wpList_plain hgd fun _ hK => ?_
  have hst := run_storeCells_at (P := P) g off t mid 0 cs.toArray w hg (by simp; omega) h1
  have e : (cs.toArray.toList.take (off + 0) ++ mid ++ cs.toArray.toList.drop (off + 0 + mid.length)).toArray = (splice cs off mid).toArray := by simp [splice]
  rw [e] at hst
  unfold Oper.wp execOp
  have hs := T.size
  cases hq : P.info? ty with
  | none => simp [hq] at hs
  | some inf =>
    have hsz : inf.size = n := by simpa [hq] using hs
    have hsv : (storeVar ty ⟨g, off, none⟩ (.agg mid.toArray)).run P w = .ok () (w.setRow g (splice cs off mid).toArray) := by
      simp [storeVar, sizeOf, typeInfo, hq, Value.cells, hsz, hn, hst]
    simp only [ho, hx, hy, Instr.storeAt, Instr.sureAddr, Sem.run_bind, Sem.run_pure, Result.andThen_ok, hsv]
    exact hK _ _ (h _ (setRow_heap w g _ _ t _ hg) ⟨rfl, rfl, rfl, by simp, fun k _ hk => setRow_other w g k _ (by simpa using hk)⟩ (by simp))

/-- One cell read out of a block. -/
theorem wp_load_cell (hgd : o.guard = none) {ty : TypeId} {x : Operand} (ho : o.op = .load ty x) {d : TypeDesc} (hu : P.underlying ty = some d) (hd : d.isRow = false)
    {g i : Nat} (hx : a.eval x = .pointer (some ⟨g, i, none⟩)) {cs : List Value} {t : TypeId} (hg : Blk w g cs t) {v : Value} (hv : cs[i]? = some v)
    (h : wpList P ops Q rest (a.put o.dst v) w) : wpList P ops Q (o :: rest) a w := by
  refine wpList_plain hgd fun _ hK => ?_
  have hagg : (isAgg ty).run P w = .ok false w := by
    unfold isAgg
    rw [Sem.run_bind, run_underlying hu w]
    cases d <;> simp_all [TypeDesc.isRow]
  have hc : w.cell? ⟨g, i, none⟩ = some v := by rw [hg.cell]; exact hv
  have hl : (loadVar ty ⟨g, i, none⟩).run P w = .ok v w := by
    simp [loadVar, Sem.run_bind, hagg, load, Sem.run, hc]
  unfold Oper.wp execOp
  simp only [ho, hx, Instr.loadAt, Instr.sureAddr, Sem.run_bind, Sem.run_pure, Result.andThen_ok, hl]
  exact hK _ _ h
end

/-! Results that lie in memory. -/
section
variable {P : Program} {fn : Func} {w : World} {R : Ending → World → Prop} {a : Act} {ty n ty' n' : Nat} {z z' : List Value}
theorem load_blk (T : Arr P ty n z) {g : Nat} {t : TypeId} {cs : List Value} (hg : Blk w g cs t) (hn : cs.length = n) : (loadVar ty ⟨g, 0, none⟩).run P w = .ok (.agg cs.toArray) w := by
  obtain ⟨d, hu, hd⟩ := T.und
  exact run_loadVar_row w g t ty cs.toArray (0, 0) d hg hu (by cases d <;> first | rfl | (simp [TypeDesc.isRow] at hd)) (by rw [T.size]; simp [hn])
theorem ret_cell (T : Arr P ty n z) {p : Tmp} (h : fn.results = #[.cell p ty]) (hd : a.defers = []) {g : Nat} (hp : a.tmps.getD p undef = .pointer (some ⟨g, 0, none⟩)) {t : TypeId} {cs : List Value} (hg : Blk w g cs t) (hn : cs.length = n)
    (hR : R (.returned (.agg cs.toArray)) w) : bodyPost P fn R .ret a w := by
  refine bodyPost_ret (v := .agg cs.toArray) ?_ hd hR
  have hp' : a.tmps[p]?.getD undef = .pointer (some ⟨g, 0, none⟩) := by simpa using hp
  simp [results, h, hp', asAddr, load_blk T hg hn]
theorem ret_cell_tmp (T : Arr P ty n z) {p u : Tmp} (h : fn.results = #[.cell p ty, .tmp u]) (hd : a.defers = []) {g : Nat} (hp : a.tmps.getD p undef = .pointer (some ⟨g, 0, none⟩)) {v : Value} (hv : a.tmps.getD u undef = v) {t : TypeId} {cs : List Value} (hg : Blk w g cs t) (hn : cs.length = n)
    (hR : R (.returned (.tuple #[.agg cs.toArray, v])) w) : bodyPost P fn R .ret a w := by
  refine bodyPost_ret (v := .tuple #[.agg cs.toArray, v]) ?_ hd hR
  subst hv
  rw [results_cell_tmp h, hp]
  simp [asAddr, load_blk T hg hn]
theorem ret_cell_cell (T : Arr P ty n z) (T' : Arr P ty' n' z') {p u : Tmp} (h : fn.results = #[.cell p ty, .cell u ty']) (hd : a.defers = []) {g g' : Nat} (hp : a.tmps.getD p undef = .pointer (some ⟨g, 0, none⟩)) (hu : a.tmps.getD u undef = .pointer (some ⟨g', 0, none⟩))
    {t t' : TypeId} {cs cs' : List Value} (hg : Blk w g cs t) (hn : cs.length = n) (hg' : Blk w g' cs' t') (hn' : cs'.length = n')
    (hR : R (.returned (.tuple #[.agg cs.toArray, .agg cs'.toArray])) w) : bodyPost P fn R .ret a w := by
  refine bodyPost_ret (v := .tuple #[.agg cs.toArray, .agg cs'.toArray]) ?_ hd hR
  have hp' : a.tmps[p]?.getD undef = .pointer (some ⟨g, 0, none⟩) := by simpa using hp
  have hu' : a.tmps[u]?.getD undef = .pointer (some ⟨g', 0, none⟩) := by simpa using hu
  simp [results, h, hp', hu', asAddr, load_blk T hg hn, load_blk T' hg' hn']
end
theorem ret_tmp4 {P : Program} {fn : Func} {w : World} {R : Ending → World → Prop} {a : Act} {t0 t1 t2 t3 : Tmp} (h : fn.results = #[.tmp t0, .tmp t1, .tmp t2, .tmp t3]) (hd : a.defers = []) {v0 v1 v2 v3 : Value}
    (h0 : a.tmps.getD t0 undef = v0) (h1 : a.tmps.getD t1 undef = v1) (h2 : a.tmps.getD t2 undef = v2) (h3 : a.tmps.getD t3 undef = v3)
    (hR : R (.returned (.tuple #[v0, v1, v2, v3])) w) : bodyPost P fn R .ret a w := by
  refine bodyPost_ret (v := .tuple #[v0, v1, v2, v3]) ?_ hd hR
  subst h0 h1 h2 h3
  simp [results, h]

/-! Building a struct of one part; lists of byte slices. -/
theorem fold_set (off : Nat) : ∀ (mid : List Value) (k : Nat) (cells : Array Value), off + k + mid.length ≤ cells.size →
    ((mid.zipIdx k).foldl (fun cs (x : Value × Nat) => cs.setIfInBounds (off + x.2) x.1) cells).toList = splice cells.toList (off + k) mid
  | [], k, cells, _ => by simp [splice]
  | v :: mid, k, cells, h => by
    simp only [List.zipIdx_cons, List.foldl_cons]
    rw [fold_set off mid (k + 1) _ (by simp at h ⊢; omega)]
    simp only [List.length_cons] at h
    apply List.ext_getElem?
    intro j
    simp only [splice, Array.toList_setIfInBounds, List.getElem?_append, List.length_take, List.length_set, Array.length_toList, List.getElem?_take, List.getElem?_set, List.getElem?_drop, List.length_cons]
    by_cases h1 : j < off + k
    · simp [h1, show j < off + (k + 1) by omega, show off + k ≠ j by omega, show min (off + k) cells.size = off + k by omega, show min (off + (k + 1)) cells.size = off + (k + 1) by omega]
    · by_cases h2 : j = off + k
      · subst h2
        simp [show off + k < off + (k + 1) by omega, show min (off + k) cells.size = off + k by omega, show min (off + (k + 1)) cells.size = off + (k + 1) by omega]
        omega
      · have e : j - (off + k) = (j - (off + (k + 1))) + 1 := by omega
        simp only [h1, show ¬ j < off + (k + 1) by omega, show min (off + k) cells.size = off + k by omega, show min (off + (k + 1)) cells.size = off + (k + 1) by omega, if_false, e, List.getElem?_cons_succ, Nat.add_lt_add_iff_right]
        by_cases h3 : j - (off + (k + 1)) < mid.length
        · simp [h3]
        · simp only [h3, if_false]
          rw [if_neg (by omega)]
          congr 1; omega

theorem run_mapM_each {α β : Type} {P : Program} {w : World} (f : α → Sem β) (h : α → β) : ∀ (l : List α), (∀ g ∈ l, (f g).run P w = .ok (h g) w) → (l.mapM f).run P w = .ok (l.map h) w
  | [], _ => rfl
  | g :: l, hg => by
    rw [List.mapM_cons, Sem.run_bind, hg g (by simp)]
    simp only [Result.andThen_ok]
    rw [Sem.run_bind, run_mapM_each f h l (fun g' hg' => hg g' (by simp [hg']))]
    rfl

section
variable {P : Program} {ops : Array Oper} {rest : List Oper} {o : Oper} {a : Act} {w : World} {Q : Exit → Act → World → Prop}
/-- A struct built of one part that is itself an array or a struct. -/
theorem wp_build_part {ty n : Nat} {z : List Value} (T : Arr P ty n z) (hgd : o.guard = none) {x : Operand} {i : Nat} (ho : o.op = .build ty #[(i, x)]) {fields : Array Field} (hu : P.underlying ty = some (.struct fields))
    {m : Nat} {f : Field} (hf : fields[i]? = some f) (hsz : fields.toList.all (fun g => (P.info? g.type).isSome) = true) (hm : (P.info? f.type).map (·.size) = some m) {mid : List Value} (hx : a.eval x = .agg mid.toArray) (hl : mid.length = m) (hfit : f.offset + m ≤ n)
    (h : wpList P ops Q rest (a.put o.dst (.agg (splice z f.offset mid).toArray)) w) : wpList P ops Q (o :: rest) a w := by
  refine wpList_plain hgd fun _ hK => ?_
  have hone : ∀ g ∈ fields.toList, ((do pure (g.offset, ← sizeOf g.type)) : Sem (Nat × Nat)).run P w = .ok (g.offset, P.cellsOf g.type) w := by
    intro g hg
    have hs := List.all_eq_true.1 hsz g hg
    cases hq : P.info? g.type with
    | none => simp [hq] at hs
    | some inf => simp [Sem.run_bind, sizeOf, typeInfo, hq, Result.andThen, Program.cellsOf]
  have hmapA : ((fields.mapM fun f => do pure (f.offset, ← sizeOf f.type)) : Sem (Array (Nat × Nat))).run P w = .ok (fields.map fun f => (f.offset, P.cellsOf f.type)) w := by
    rw [Array.mapM_eq_mapM_toList]
    simp only [map_eq_pure_bind, Sem.run_bind, run_mapM_each _ _ fields.toList hone, Result.andThen]
    have e : (List.map (fun g => (g.offset, P.cellsOf g.type)) fields.toList).toArray = Array.map (fun g => (g.offset, P.cellsOf g.type)) fields := by
      apply Array.toList_inj.1
      simp
    rw [e]
    rfl
  have hplace : (fields.map fun f => (f.offset, P.cellsOf f.type))[i]? = some (f.offset, m) := by
    simp only [Array.getElem?_map, hf, Option.map_some, Program.cellsOf, hm, Option.getD_some]
  have hb : (Instr.build ty #[(i, .agg mid.toArray)]).run P w = .ok (.agg (splice z f.offset mid).toArray) w := by
    have hfold := fold_set f.offset mid 0 z.toArray (by simp [T.len]; omega)
    have hfill : Instr.fill (fun i => (fields.map fun f => (f.offset, P.cellsOf f.type))[i]?) z.toArray [(i, .agg mid.toArray)] = some (splice z f.offset mid).toArray := by
      simp only [Instr.fill, hplace, Value.cells, List.size_toArray]
      rw [if_neg (by simp [hl, T.len]; omega)]
      congr 1
      apply Array.toList_inj.1
      have e : mid.toArray.zipIdx = (mid.zipIdx).toArray := by simp
      rw [e, List.foldl_toArray]
      simpa using hfold
    unfold Instr.build
    simp only [Sem.run_bind, T.zero w, Result.andThen_ok, run_underlying hu, hmapA, Value.cells]
    simp only [hfill]
    rfl
  unfold Oper.wp execOp
  simp only [ho, List.map_toArray, List.map_cons, List.map_nil, hx, Sem.run_bind, hb, Result.andThen_ok]
  exact hK _ _ h
end

/-! Lists of byte slices. -/
/-- Values that are byte slices of the call's own, each in a block of elements of type t. -/
def Elems (w : World) (base t : Nat) (vals : List Value) (ls : List (List UInt8)) : Prop :=
  vals.length = ls.length ∧ ∀ i, i < ls.length → ∃ g cap more, vals[i]? = some (.slice (some ⟨g, 0, none⟩) (ls.getD i []).length cap) ∧ base ≤ g ∧ (ls.getD i []).length ≤ 9223372036854775807 ∧ Blk w g (bvs (ls.getD i []) ++ more) t
theorem Elems.kept {w w' : World} {base t : Nat} {vals : List Value} {ls : List (List UInt8)} (h : Elems w base t vals ls) (hb : Below w.heap.size w w') : Elems w' base t vals ls :=
  ⟨h.1, fun i hi => let ⟨g, cap, more, hv, hg, hl, hB⟩ := h.2 i hi; ⟨g, cap, more, hv, hg, hl, hB.kept hb⟩⟩
theorem own_ne {w : World} {base e size : Nat} {v : Value} {n : Nat} {xs : List Value} (h : w.ownsRow base e size v n xs) {g t : Nat} {cs : List Value} (hB : Blk w g cs t) (ht : t ≠ e) : some g ≠ v.ownBlock := by
  intro hg
  rcases h.2 with ⟨rfl, _⟩ | ⟨g', cap, cur, rfl, _, hh, _⟩
  · simp [Value.ownBlock] at hg
  · simp only [Value.ownBlock, Option.some.injEq] at hg
    subst hg
    rw [hB] at hh
    simp only [Option.some.injEq, Obj.cells.injEq] at hh
    exact ht hh.2.1
theorem Elems.grown {w w' : World} {base t b e size : Nat} {vals : List Value} {ls : List (List UInt8)} {v : Value} {n : Nat} {xs : List Value} (h : Elems w base t vals ls) (ho : w.ownsRow b e size v n xs) (ht : t ≠ e) (hb : w.grownBy w' v.ownBlock) : Elems w' base t vals ls :=
  ⟨h.1, fun i hi => let ⟨g, cap, more, hv, hg, hl, hB⟩ := h.2 i hi; ⟨g, cap, more, hv, hg, hl, hB.grown hb (own_ne ho hB ht)⟩⟩
theorem Elems.grownB {w w' : World} {base t t' g' : Nat} {vals cs' : List Value} {ls : List (List UInt8)} (h : Elems w base t vals ls) (ho : Blk w g' cs' t') (ht : t ≠ t') (hb : w.grownBy w' (some g')) : Elems w' base t vals ls :=
  ⟨h.1, fun i hi => let ⟨g, cap, more, hv, hg, hl, hB⟩ := h.2 i hi; ⟨g, cap, more, hv, hg, hl, hB.grown hb (by
    intro e
    obtain rfl := Option.some.inj e
    unfold Blk at hB ho
    rw [hB] at ho
    simp only [Option.some.injEq, Obj.cells.injEq] at ho
    exact ht ho.2.1)⟩⟩
theorem own_kept {w w' : World} {base e size : Nat} {v : Value} {n : Nat} {xs : List Value} (h : w.ownsRow base e size v n xs) (hb : Below w.heap.size w w') : w'.ownsRow base e size v n xs :=
  h.kept (grown_below hb none) (by cases hv : v.ownBlock <;> simp)
theorem Elems.nil (w : World) (base t : Nat) : Elems w base t [] [] := ⟨rfl, fun i hi => by simp at hi⟩
theorem Elems.snoc {w : World} {base t : Nat} {vals : List Value} {ls : List (List UInt8)} (h : Elems w base t vals ls) {g cap : Nat} {more : List Value} {l : List UInt8} (hg : base ≤ g) (hl : l.length ≤ 9223372036854775807) (hB : Blk w g (bvs l ++ more) t) :
    Elems w base t (vals ++ [.slice (some ⟨g, 0, none⟩) l.length cap]) (ls ++ [l]) := by
  refine ⟨by simp [h.1], fun i hi => ?_⟩
  by_cases hlt : i < ls.length
  · obtain ⟨g', cap', more', h1, h2, h3, h4⟩ := h.2 i hlt
    have e : (ls ++ [l]).getD i [] = ls.getD i [] := by simp [List.getD_eq_getElem?_getD, List.getElem?_append, hlt]
    rw [e]
    exact ⟨g', cap', more', by rw [List.getElem?_append, if_pos (by rw [h.1]; exact hlt)]; exact h1, h2, h3, h4⟩
  · simp at hi
    obtain rfl : i = ls.length := by omega
    have e : (ls ++ [l]).getD ls.length [] = l := by simp [List.getD_eq_getElem?_getD]
    rw [e]
    exact ⟨g, cap, more, by rw [List.getElem?_append, if_neg (by rw [h.1]; omega)]; simp [h.1], hg, hl, hB⟩

/-- The cells of a slice of byte slices, as far as it is read. -/
def RdL (w : World) (a : Option Addr) (ls : List (List UInt8)) : Prop :=
  ls.length ≤ 9223372036854775807 ∧ (ls = [] ∨ ∃ b off, a = some ⟨b, off, none⟩ ∧ ∀ i, i < ls.length → ∃ ai ci, w.cell? ⟨b, off + i, none⟩ = some (.slice ai (ls.getD i []).length ci) ∧ Rd w ai (ls.getD i []))
theorem RdL.kept {w w' : World} {a : Option Addr} {ls : List (List UInt8)} (h : RdL w a ls) (hb : Below w.heap.size w w') : RdL w' a ls := by
  refine ⟨h.1, ?_⟩
  rcases h.2 with h0 | ⟨b, off, ha, hc⟩
  · exact .inl h0
  · refine .inr ⟨b, off, ha, fun i hi => ?_⟩
    obtain ⟨ai, ci, h1, h2⟩ := hc i hi
    exact ⟨ai, ci, by rw [hb.cell (World.block_lt_of_cell? w _ h1)]; exact h1, h2.kept hb⟩
theorem Blk.rdMore {w : World} {g : Nat} {bs : List UInt8} {more : List Value} {t : TypeId} (h : Blk w g (bvs bs ++ more) t) (hl : bs.length ≤ 9223372036854775807) : Rd w (some ⟨g, 0, none⟩) bs :=
  ⟨hl, .inr ⟨g, 0, rfl, fun i hi => by rw [h.cell, Nat.zero_add, List.getElem?_append, if_pos (by rw [bvs_length]; exact hi), bvs_get bs i hi]⟩⟩
/-- What a call has gathered, read as a slice of byte slices. -/
theorem Elems.rdL {w : World} {base base' e t : Nat} {v : Value} {vals : List Value} {ls : List (List UInt8)} (ho : w.ownsRow base e 1 v vals.length vals) (h : Elems w base' t vals ls) (hl : ls.length ≤ 9223372036854775807) :
    ∃ a cap, v = .slice a ls.length cap ∧ RdL w a ls := by
  rcases ho.2 with ⟨rfl, hn⟩ | ⟨g, cap, cur, rfl, _, hg, _, _, hs, htake⟩
  · have : ls = [] := List.eq_nil_of_length_eq_zero (by rw [← h.1]; exact hn)
    subst this
    exact ⟨none, 0, rfl, hl, .inl rfl⟩
  · refine ⟨some ⟨g, 0, none⟩, cap, by rw [h.1], hl, .inr ⟨g, 0, rfl, fun i hi => ?_⟩⟩
    obtain ⟨gi, ci, more, h1, _, h3, h4⟩ := h.2 i hi
    refine ⟨_, ci, ?_, h4.rdMore h3⟩
    rw [cell_of_row w g _ cur e (0, 0) hg, Nat.zero_add, ← h1, ← htake]
    rw [List.getElem?_take, if_pos (by rw [h.1]; omega)]
    simp

/-- One value appended to a slice of the call's own. -/
theorem wp_append_one {P : Program} {ops : Array Oper} {rest : List Oper} {o : Oper} {a : Act} {w w1 : World} {Q : Exit → Act → World → Prop} (hgd : o.guard = none) {s x : Operand} {t : TypeId}
    (ho : o.op = .call { callee := .builtin .append, args := #[s, x], argTypes := #[t, t] }) {base e bytes : Nat} {z : Value} (ht : P.underlying t = some (.slice e)) (info : (P.info? e).map (fun i => (i.zero, i.size, i.bytes)) = some (some z, 1, bytes)) (hz : z.cells.size = 1)
    {val : Value} (hw : w = w1.alloc (.cells #[val] e)) (hx : a.eval x = .slice (some ⟨w1.heap.size, 0, none⟩) 1 1) (hval : val.oneCell' = true) {v : Value} {vals : List Value} (hs : a.eval s = v) (hown : w1.ownsRow base e 1 v vals.length vals)
    (hlen : (vals.length + 1) * bytes ≤ 140737488355328) (hmax : vals.length + 1 ≤ 9223372036854775807) (hbase : base ≤ w1.heap.size)
    (h : ∀ v' w', w'.ownsRow base e 1 v' (vals ++ [val]).length (vals ++ [val]) → w1.grownBy w' v.ownBlock → wpList P ops Q rest (a.put o.dst v') w') : wpList P ops Q (o :: rest) a w := by
  obtain ⟨i, hi, hz0, hz1, hz2⟩ := info_parts info
  subst hw
  refine wpList_append_own _ hgd s x t ho base e i z 1 bytes ht hi hz0 hz1 hz2 hz (by decide) v vals.length vals hs (hown.alloc _) ⟨w1.heap.size, 0, none⟩ 1 1 [val] hx rfl ?_ ?_ (by unfold maxLen; omega) hlen (by simp; omega) ?_
  · intro j u hj
    match j, hj with
    | 0, hj =>
      simp at hj
      subst hj
      have := Blk.new w1 [val] e
      rw [Addr.add_mid, this.cell]
      rfl
  · intro u hu
    simp at hu
    subst hu
    exact hval
  · intro v' w' h1 h2 _
    refine h v' w' (by simpa using h1) ?_
    exact grown_trans (grown_none (World.grownBy_alloc w1 _ none) _) h2

/-- A byte slice of the call's own. -/
def OwnB (w : World) (base e : Nat) (v : Value) (xs : List UInt8) : Prop := w.ownsRow base e 1 v xs.length (bvs xs)
theorem OwnB.kept {w w' : World} {base e : Nat} {v : Value} {xs : List UInt8} (h : OwnB w base e v xs) (hb : Below w.heap.size w w') : OwnB w' base e v xs := own_kept h hb
/-- What the call owns, read. -/
theorem OwnB.rd {w : World} {base e : Nat} {v : Value} {xs : List UInt8} (h : OwnB w base e v xs) : ∃ a cap, v = .slice a xs.length cap ∧ Rd w a xs ∧ (∀ x, a = some x → base ≤ x.block) := by
  rcases h.2 with ⟨rfl, hn⟩ | ⟨g, cap, cur, rfl, hg, hh, hnc, hm, hs, htake⟩
  · have : xs = [] := List.eq_nil_of_length_eq_zero hn
    subst this
    exact ⟨none, 0, rfl, ⟨by simp, .inl rfl⟩, fun x hx => by cases hx⟩
  · refine ⟨some ⟨g, 0, none⟩, cap, rfl, ⟨by unfold maxLen at hm; omega, .inr ⟨g, 0, rfl, fun i hi => ?_⟩⟩, fun x hx => by cases hx; exact hg⟩
    rw [cell_of_row w g _ cur e (0, 0) hh, Nat.zero_add, ← bvs_get xs i hi, ← htake, List.getElem?_take, if_pos (by omega)]
    simp

/-- A byte slice appended to a byte slice of the call's own. -/
theorem wp_append_rd {P : Program} {ops : Array Oper} {rest : List Oper} {o : Oper} {a : Act} {w : World} {Q : Exit → Act → World → Prop} (hgd : o.guard = none) {s x : Operand} {t : TypeId}
    (ho : o.op = .call { callee := .builtin .append, args := #[s, x], argTypes := #[t, t] }) {base e : Nat} {z : Value} (ht : P.underlying t = some (.slice e)) (info : (P.info? e).map (fun i => (i.zero, i.size, i.bytes)) = some (some z, 1, 1)) (hz : z.cells.size = 1)
    {ad : Option Addr} {n c : Nat} (hx : a.eval x = .slice ad n c) {v : Value} (hs : a.eval s = v) {xs bs : List UInt8} (hown : OwnB w base e v xs) (hr : Rd w ad bs) (hn : bs.length = n)
    (hlen : xs.length + bs.length ≤ 140737488355328) (hbase : base ≤ w.heap.size)
    (h : ∀ v' w', OwnB w' base e v' (xs ++ bs) → w.grownBy w' v.ownBlock → wpList P ops Q rest (a.put o.dst v') w') : wpList P ops Q (o :: rest) a w := by
  obtain ⟨i, hi, hz0, hz1, hz2⟩ := info_parts info
  subst hn
  by_cases h0 : bs = []
  · subst h0
    have hrun : (Builtin.append_ #[t, t] o.type #[v, .slice ad 0 c]).run P w = .ok v w := by
      rcases hown.2 with ⟨rfl, h0⟩ | ⟨g, cap, cur, rfl, _, _, hnc, _⟩
      · cases ad <;> simp [Builtin.append_, run_underlying ht, sizeOf, typeInfo, hi, Builtin.lenOf, Builtin.firstCells, loadCells, loadCellsFrom]
      · cases ad <;> simp [Builtin.append_, run_underlying ht, sizeOf, typeInfo, hi, Builtin.lenOf, Builtin.firstCells, hnc, storeCells, loadCells, loadCellsFrom]
    refine wpList_plain hgd fun K hK => ?_
    unfold Oper.wp
    simp only [List.length_nil] at hx
    simp [execOp, ho, resolve, invoke, builtin, hs, hx, hrun, Result.andThen]
    exact hK _ _ (h v w (by rw [List.append_nil]; exact hown) (World.grownBy.refl _ _))
  · obtain ⟨ad', rfl, hsrc⟩ := hr.src (by cases bs <;> simp_all)
    refine wpList_append_own _ hgd s x t ho base e i z 1 1 ht hi hz0 hz1 hz2 hz (by decide) v xs.length (bvs xs) hs hown ad' bs.length c (bvs bs) hx (by rw [bvs_length, Nat.mul_one]) hsrc (bvs_one bs) (by unfold maxLen; omega) (by omega) hbase ?_
    intro v' w' h1 h2 _
    exact h v' w' (by unfold OwnB; rw [List.length_append, bvs_append]; exact h1) h2
theorem OwnB.empty (w : World) (base e : Nat) (hb : base ≤ w.heap.size) : OwnB (w.alloc (.cells #[] e)) base e (.slice (some ⟨w.heap.size, 0, none⟩) 0 0) [] :=
  World.ownsRow_lit w #[] 0 hb (by unfold maxLen; omega) rfl

/-- make of a slice of zeros. -/
theorem wp_make_zero {P : Program} {ops : Array Oper} {rest : List Oper} {o : Oper} {a : Act} {w : World} {Q : Exit → Act → World → Prop} (hgd : o.guard = none) {l c : Operand} {t : TypeId} (hop : o.op = Op.makeSlice t l c)
    {e bytes : Nat} {z : Value} (ht : P.underlying t = some (.slice e)) (info : (P.info? e).map (fun i => (i.zero, i.size, i.bytes)) = some (some z, 1, bytes)) (hz : z.cells = #[z]) {n : Nat} (hl : a.eval l = .int .i64 (n : Int)) (hc : a.eval c = .int .i64 (n : Int)) (hn : bytes * n ≤ 281474976710656) (hm : n ≤ 9223372036854775807)
    (h : ∀ w', Blk w' w.heap.size (List.replicate n z) e → w.grownBy w' none → w'.heap.size = w.heap.size + 1 → wpList P ops Q rest (a.put o.dst (.slice (some ⟨w.heap.size, 0, none⟩) n n)) w') : wpList P ops Q (o :: rest) a w := by
  obtain ⟨i, hi, hz0, hz1, hz2⟩ := info_parts info
  refine wpList_plain hgd fun K hK => ?_
  have hrun := run_make (P := P) w t e i z ht hi hz0 .i64 .i64 n n (by omega) (by omega) (by rw [hz2]; omega) (by omega)
  have hcells : madeCells z.cells ((n : Int).toNat * i.size) = (List.replicate n z).toArray := by
    rw [hz1, hz]
    apply Array.ext
    · simp [madeCells]
    · intro k h1 h2
      simp [madeCells, Nat.mod_one]
  rw [hcells] at hrun
  unfold Oper.wp
  simp [execOp, hop, hl, hc, hrun, Result.andThen]
  exact hK _ _ (by simpa using h _ (Blk.new w _ e) (World.grownBy_alloc w _ none) (by simp))
end Go.Proofs.Ytbacbgicfomkbaa
