/- What operations yield, over an abstract frame; steps of a list and of a plan. -/
import Derived.Test.YtbacbgicfomkbaaAbs
namespace Go.Proofs.Ytbacbgicfomkbaa
open Go.RowKit
set_option linter.unusedVariables false
set_option linter.unusedSimpArgs false
section
variable {P : Program} {a : Act} {w : World}
theorem do_nilc {o : Oper} {x : Operand} (ho : o.op = .nilCheck x) {ad : Addr} (hx : a.eval x = .pointer (some ad)) : (execOp a.eval o).run P w = .ok (.value (.pointer (some ad))) w := by
  unfold execOp
  simp only [ho, hx]
  go_simp
theorem do_lenS {o : Oper} {x : Operand} {t e : TypeId} (ho : o.op = .call { callee := .builtin .len, args := #[x], argTypes := #[t] }) {p : Option Addr} {n c : Nat} (hx : a.eval x = .slice p n c) (ht : P.underlying t = some (.slice e)) : (execOp a.eval o).run P w = .ok (.value (.int .i64 (n : Int))) w := by
  have hm : (#[x].map a.eval) = #[.slice p n c] := by simp [hx]
  unfold execOp
  simp only [ho, hm]
  go_simp
theorem do_extract {o : Oper} {x : Operand} {i : Nat} (ho : o.op = .extract x i) {vs : Array Value} {v : Value} (hx : a.eval x = .tuple vs) (hv : vs[i]? = some v) : (execOp a.eval o).run P w = .ok (.value v) w := by
  unfold execOp
  simp only [ho, hx]
  go_simp
/-- A cell that is no array and no struct, read out of a block. -/
theorem do_ldB {o : Oper} {ty : TypeId} {x : Operand} (ho : o.op = .load ty x) {d : TypeDesc} (hu : P.underlying ty = some d) (hd : d.isRow = false) {g i : Nat} (hx : a.eval x = .pointer (some ⟨g, i, none⟩)) {cs : List Value} {t : TypeId} (hg : Blk w g cs t) {v : Value} (hv : cs[i]? = some v) :
    (execOp a.eval o).run P w = .ok (.value v) w := by
  have hagg : (isAgg ty).run P w = .ok false w := by
    unfold isAgg
    rw [Sem.run_bind, run_underlying hu w]
    cases d <;> simp_all [TypeDesc.isRow]
  have hc : w.cell? ⟨g, i, none⟩ = some v := by rw [hg.cell]; exact hv
  have hl : (loadVar ty ⟨g, i, none⟩).run P w = .ok v w := by
    simp [loadVar, Sem.run_bind, hagg, load, Sem.run, hc]
  unfold execOp
  simp only [ho, hx, Instr.loadAt, Instr.sureAddr, Sem.run_bind, Sem.run_pure, Result.andThen_ok, hl]
theorem do_ldC {o : Oper} {ty : TypeId} {x : Operand} (ho : o.op = .load ty x) {d : TypeDesc} (hu : P.underlying ty = some d) (hd : d.isRow = false) {ad : Addr} (hx : a.eval x = .pointer (some ad)) {v : Value} (hc : w.cell? ad = some v) :
    (execOp a.eval o).run P w = .ok (.value v) w := by
  have hagg : (isAgg ty).run P w = .ok false w := by
    unfold isAgg
    rw [Sem.run_bind, run_underlying hu w]
    cases d <;> simp_all [TypeDesc.isRow]
  have hl : (loadVar ty ad).run P w = .ok v w := by
    simp [loadVar, Sem.run_bind, hagg, load, Sem.run, hc]
  unfold execOp
  simp only [ho, hx, Instr.loadAt, Instr.sureAddr, Sem.run_bind, Sem.run_pure, Result.andThen_ok, hl]
theorem do_assign {o : Oper} {x : Operand} {v : Value} (ho : o.op = .assign x) (hx : a.eval x = v) : (execOp a.eval o).run P w = .ok (.value v) w := by
  unfold execOp; simp only [ho, hx]; rfl
section
variable {o : Oper} {x y : Operand} {t u : TypeId} {k : IntKind} {m n : Nat}
theorem do_lss (ho : o.op = .binOp .lss t x y u) (hu : P.underlying t = some (.int k)) (hx : a.eval x = .int k (m : Int)) (hy : a.eval y = .int k (n : Int)) : (execOp a.eval o).run P w = .ok (.value (.bool (decide (m < n)))) w := by
  have e : decide ((m : Int) < (n : Int)) = decide (m < n) := by rw [decide_eq_decide]; omega
  unfold execOp; simp only [ho, hx, hy]; go_simp
theorem do_gtr (ho : o.op = .binOp .gtr t x y u) (hu : P.underlying t = some (.int k)) (hx : a.eval x = .int k (m : Int)) (hy : a.eval y = .int k (n : Int)) : (execOp a.eval o).run P w = .ok (.value (.bool (decide (n < m)))) w := by
  have e : decide ((n : Int) < (m : Int)) = decide (n < m) := by rw [decide_eq_decide]; omega
  unfold execOp; simp only [ho, hx, hy]; go_simp
theorem do_geq (ho : o.op = .binOp .geq t x y u) (hu : P.underlying t = some (.int k)) (hx : a.eval x = .int k (m : Int)) (hy : a.eval y = .int k (n : Int)) : (execOp a.eval o).run P w = .ok (.value (.bool (decide (n ≤ m)))) w := by
  have e : decide ((n : Int) ≤ (m : Int)) = decide (n ≤ m) := by rw [decide_eq_decide]; omega
  unfold execOp; simp only [ho, hx, hy]; go_simp
theorem do_leq (ho : o.op = .binOp .leq t x y u) (hu : P.underlying t = some (.int k)) (hx : a.eval x = .int k (m : Int)) (hy : a.eval y = .int k (n : Int)) : (execOp a.eval o).run P w = .ok (.value (.bool (decide (m ≤ n)))) w := by
  have e : decide ((m : Int) ≤ (n : Int)) = decide (m ≤ n) := by rw [decide_eq_decide]; omega
  unfold execOp; simp only [ho, hx, hy]; go_simp
theorem do_eql (ho : o.op = .binOp .eql t x y u) (hu : P.underlying t = some (.int k)) (hx : a.eval x = .int k (m : Int)) (hy : a.eval y = .int k (n : Int)) : (execOp a.eval o).run P w = .ok (.value (.bool (decide (m = n)))) w := by
  have e : ((m : Int) == (n : Int)) = decide (m = n) := by rw [Bool.eq_iff_iff, beq_iff_eq, decide_eq_true_iff]; omega
  unfold execOp; simp only [ho, hx, hy]; go_simp
theorem do_neq (ho : o.op = .binOp .neq t x y u) (hu : P.underlying t = some (.int k)) (hx : a.eval x = .int k (m : Int)) (hy : a.eval y = .int k (n : Int)) : (execOp a.eval o).run P w = .ok (.value (.bool (decide (¬ m = n)))) w := by
  have e : ((m : Int) != (n : Int)) = decide (¬ m = n) := by rw [Bool.eq_iff_iff, bne_iff_ne, decide_eq_true_iff]; omega
  unfold execOp; simp only [ho, hx, hy]; go_simp
theorem do_addN (ho : o.op = .binOp .add t x y u) (hu : P.underlying t = some (.int k)) (hx : a.eval x = .int k (m : Int)) (hy : a.eval y = .int k (n : Int)) (hw : k.wrap ((m : Int) + n) = ((m + n : Nat) : Int)) : (execOp a.eval o).run P w = .ok (.value (.int k ((m + n : Nat) : Int))) w := by
  unfold execOp; simp only [ho, hx, hy]; go_simp
theorem do_subN (ho : o.op = .binOp .sub t x y u) (hu : P.underlying t = some (.int k)) (hx : a.eval x = .int k (m : Int)) (hy : a.eval y = .int k (n : Int)) (hw : k.wrap ((m : Int) - n) = ((m - n : Nat) : Int)) : (execOp a.eval o).run P w = .ok (.value (.int k ((m - n : Nat) : Int))) w := by
  unfold execOp; simp only [ho, hx, hy]; go_simp
theorem do_cvtN {t' : TypeId} {k' : IntKind} (ho : o.op = .convert t t' x) (hu : P.underlying t = some (.int k)) (hu' : P.underlying t' = some (.int k')) (hx : a.eval x = .int k (m : Int)) (hw : k'.wrap (m : Int) = (m : Int)) : (execOp a.eval o).run P w = .ok (.value (.int k' (m : Int))) w := by
  unfold execOp; simp only [ho, hx]; go_simp
end
end
theorem far_nil (d : Nat) : ∀ x ∈ ([] : List (Nat × Value)), d ≠ x.1 := fun _ h => by cases h
theorem far_cons {d t : Nat} {v : Value} {L : List (Nat × Value)} (h : d ≠ t) (hL : ∀ x ∈ L, d ≠ x.1) : ∀ x ∈ (t, v) :: L, d ≠ x.1 := fun x hx => by
  rcases List.mem_cons.1 hx with rfl | hx
  · exact h
  · exact hL x hx
theorem Keeps.sub {n : Nat} {L L' : List (Nat × Value)} {a : Act} (h : Keeps n L a) (hs : ∀ x ∈ L', x ∈ L) : Keeps n L' a := ⟨h.1, h.2.1, fun x hx => h.2.2 x (hs x hx)⟩
section
variable {P : Program} {OPS : Array Oper} {Q : Exit → Act → World → Prop} {S : World → Prop} {l : List Oper} {a : Act} {w : World} {n : Nat} {L : List (Nat × Value)}
theorem Keeps.push {d : Nat} {v : Value} (hk : Keeps n L a) (hd : d < n) (hf : ∀ x ∈ L, d ≠ x.1) : Keeps n ((d, v) :: L) (a.put (some d) v) := by
  have K := hk.put (d := d) v hf
  exact ⟨K.1, K.2.1, fun x hx => by
    rcases List.mem_cons.1 hx with rfl | hx
    · exact ev_self (by rw [hk.1]; exact hd)
    · exact K.2.2 x hx⟩
theorem of_keeps {P : Program} {c : Code} {Q : Exit → Act → World → Prop} {a : Act} {w : World} (n : Nat) (L : List (Nat × Value)) (hk : Keeps n L a) (h : ∀ a, Keeps n L a → c.wp P Q a w) : c.wp P Q a w := h a hk
/-- One operation of a list that yields a value. -/
theorem list_k {o : Oper} {rest : List Oper} {d : Nat} {v : Value} (h2 : o.dst = some d) (h3 : o.guard = none) (hk : Keeps n L a) (hd : d < n) (hf : ∀ x ∈ L, d ≠ x.1)
    (hy : (execOp a.eval o).run P w = .ok (.value v) w) (h : ∀ a', Keeps n ((d, v) :: L) a' → wpList P OPS Q rest a' w) : wpList P OPS Q (o :: rest) a w := by
  refine wp_val (wanted_free h3) hy ?_
  rw [h2]
  exact h _ (hk.push hd hf)
theorem keep_k {rest : List Oper} {d : Nat} {v : Value} (hk : Keeps n L a) (hd : d < n) (hf : ∀ x ∈ L, d ≠ x.1) (h : ∀ a', Keeps n ((d, v) :: L) a' → wpList P OPS Q rest a' w) : wpList P OPS Q rest (a.put (some d) v) w := h _ (hk.push hd hf)
theorem keep_0 {rest : List Oper} {v : Value} (hk : Keeps n L a) (h : ∀ a', Keeps n L a' → wpList P OPS Q rest a' w) : wpList P OPS Q rest (a.put none v) w := h _ hk
theorem plan_k {k : Nat} {rest : List (Nat × Nat)} {c : Op} {d : Nat} {v : Value} (hl : (l[k]?).map coreO = some (c, some d, none)) (hk : Keeps n L a) (hd : d < n) (hf : ∀ x ∈ L, d ≠ x.1)
    (hy : ∀ o : Oper, o.op = c → ∀ w', S w' → (execOp a.eval o).run P w' = .ok (.value v) w') (h : ∀ a', Keeps n ((d, v) :: L) a' → wpPlan P OPS Q S (planOps2 l rest) a' w) : wpPlan P OPS Q S (planOps2 l ((k, 0) :: rest)) a w := by
  obtain ⟨o, ho, hc⟩ := Option.map_eq_some_iff.1 hl
  have h1 : o.op = c := congrArg (fun x => x.1) hc
  have h2 : o.dst = some d := congrArg (fun x => x.2.1) hc
  have h3 : o.guard = none := congrArg (fun x => x.2.2) hc
  have e : planOps2 l ((k, 0) :: rest) = (0, strip o) :: planOps2 l rest := by
    conv => lhs; unfold planOps2
    rw [List.filterMap_cons]
    simp only [ho, Option.map_some]
    rfl
  rw [e]
  refine plan_still (v := v) (wanted_free (o := strip o) h3) (hy (strip o) h1) ?_
  have hp : a.put (strip o).dst v = a.put (some d) v := by rw [← h2]; rfl
  rw [hp]
  exact h _ (hk.push hd hf)
/-- An operation that writes, kind 1: by a law on the list of itself alone. -/
theorem plan_kw2 {k : Nat} {rest : List (Nat × Nat)} {c : Op} {d : Option Tmp} (hl : (l[k]?).map coreO = some (c, d, none))
    (h : ∀ o : Oper, o.op = c → o.dst = d → o.guard = none → wpList P OPS (Exit.then (fun a' w' => S w' ∧ wpPlan P OPS Q S (planOps2 l rest) a' w') Q) [o] a w) : wpPlan P OPS Q S (planOps2 l ((k, 1) :: rest)) a w := by
  obtain ⟨o, ho, hc⟩ := Option.map_eq_some_iff.1 hl
  have e : planOps2 l ((k, 1) :: rest) = (1, strip o) :: planOps2 l rest := by
    conv => lhs; unfold planOps2
    rw [List.filterMap_cons]
    simp only [ho, Option.map_some]
    rfl
  rw [e]
  exact plan_do (h (strip o) (congrArg (fun x => x.1) hc) (congrArg (fun x => x.2.1) hc) (congrArg (fun x => x.2.2) hc))
theorem plan_kl2 {k : Nat} {rest : List (Nat × Nat)} {c : Op} {d : Option Tmp} (hl : (l[k]?).map coreO = some (c, d, none))
    (h : ∀ o : Oper, o.op = c → o.dst = d → o.guard = none → wpList P OPS (Exit.then (fun a' w' => wpPlan P OPS Q S (planOps2 l rest) a' w') Q) [o] a w) : wpPlan P OPS Q S (planOps2 l ((k, 2) :: rest)) a w := by
  obtain ⟨o, ho, hc⟩ := Option.map_eq_some_iff.1 hl
  have e : planOps2 l ((k, 2) :: rest) = (2, strip o) :: planOps2 l rest := by
    conv => lhs; unfold planOps2
    rw [List.filterMap_cons]
    simp only [ho, Option.map_some]
    rfl
  rw [e]
  exact plan_last (h (strip o) (congrArg (fun x => x.1) hc) (congrArg (fun x => x.2.1) hc) (congrArg (fun x => x.2.2) hc))
theorem plan_k0 (h : Q .normal a w) : wpPlan P OPS Q S (planOps2 l []) a w := h
/-- A call of a function, whatever it does to the world. -/
theorem wp_call {o : Oper} {rest : List Oper} {f : FuncId} {args : Array Value} {R : Ending → World → Prop} (hg : o.guard = none) (hy : (execOp a.eval o).run P w = .ok (.enter f args) w) (hc : Calls P f args w R) (h : ∀ e w', R e w' → ∃ v, e = .returned v ∧ wpList P OPS Q rest (a.put o.dst v) w') : wpList P OPS Q (o :: rest) a w :=
  wpList_plain hg fun K hK => by
    unfold Oper.wp
    rw [hy, Oper.upon_enter]
    exact hc.mono fun e w' he => by obtain ⟨v, rfl, hv⟩ := h e w' he; exact hK _ _ hv
theorem do_call2 {o : Oper} {f : FuncId} {x y : Operand} {ts : Array TypeId} (ho : o.op = .call { callee := .value (.func f), args := #[x, y], argTypes := ts }) {u v : Value} (hx : a.eval x = u) (hy : a.eval y = v) (hf : ∀ w, (callFunc f #[u, v]).run P w = .ok (.enter f #[u, v]) w) : (execOp a.eval o).run P w = .ok (.enter f #[u, v]) w := by
  have hm : (#[x, y].map a.eval) = #[u, v] := by simp [hx, hy]
  unfold execOp
  simp only [ho, hm]
  have := hf w
  go_simp
end
def tailOff (c k off : Nat) : Nat := if c = k then off else off + k
theorem tailOff_lt {c k : Nat} (h : k < c) (off : Nat) : tailOff c k off = off + k := by unfold tailOff; rw [if_neg (by omega)]
def tailA (c k : Nat) (ad : Option Addr) : Option Addr := if k = 0 then ad else ad.map fun p => ⟨p.block, tailOff c k p.off, none⟩
/-- The tail of a slice: 'x[i:]', whatever room is left, whatever it is a slice of. -/
theorem do_tail {P : Program} {a : Act} {w : World} {o : Oper} {t e : TypeId} {x y : Operand} (ho : o.op = .slice t x (some y) none none) (hu : P.underlying t = some (.slice e)) (hs : (P.info? e).map (·.size) = some 1)
    {ad : Option Addr} {n c k : Nat} (hsp : 0 < k → ∀ p, ad = some p → p.spot = none) (hx : a.eval x = .slice ad n c) (hy : a.eval y = .int .i64 (k : Int)) (hk : k ≤ n) (hc : n ≤ c) : (execOp a.eval o).run P w = .ok (.value (.slice (tailA c k ad) (n - k) (c - k))) w := by
  cases hq : P.info? e with
  | none => simp [hq] at hs
  | some inf =>
    have hs1 : inf.size = 1 := by simpa [hq] using hs
    unfold execOp tailA
    by_cases h0 : k = 0
    · subst h0
      cases ad with
      | none => simp [ho, hx, hy, Instr.sliceAt, run_underlying hu, Instr.slice, Instr.sliceBounds, Instr.sliceBound, asIntOf, sizeOf, typeInfo, hq, Result.andThen, hs1, Addr.add]
      | some p => simp [ho, hx, hy, Instr.sliceAt, run_underlying hu, Instr.slice, Instr.sliceBounds, Instr.sliceBound, asIntOf, sizeOf, typeInfo, hq, Result.andThen, hs1, Addr.add]
    · rw [if_neg h0]
      cases ad with
      | none =>
        simp [ho, hx, hy, Instr.sliceAt, run_underlying hu, Instr.slice, Instr.sliceBounds, Instr.sliceBound, asIntOf, sizeOf, typeInfo, hq, Result.andThen, hk, hs1, Addr.add]
      | some p =>
        obtain ⟨pb, po, ps⟩ := p
        obtain rfl : ps = none := hsp (by omega) _ rfl
        simp [ho, hx, hy, Instr.sliceAt, run_underlying hu, Instr.slice, Instr.sliceBounds, Instr.sliceBound, asIntOf, sizeOf, typeInfo, hq, Result.andThen, hk, hs1, Addr.add, tailOff]
        split
        · rfl
        · simp [h0]
theorem Rd.tailA {w : World} {ad : Option Addr} {bs : List UInt8} {c k : Nat} (h : Rd w ad bs) (hc : bs.length ≤ c) : Rd w (tailA c k ad) (bs.drop k) := by
  refine ⟨by rw [List.length_drop]; have := h.1; omega, ?_⟩
  by_cases hk : bs.length ≤ k
  · exact .inl (List.drop_of_length_le hk)
  · rcases h.2 with rfl | ⟨b, off, rfl, hcell⟩
    · simp at hk
    · by_cases h0 : k = 0
      · subst h0
        exact .inr ⟨b, off, rfl, hcell⟩
      · refine .inr ⟨b, off + k, ?_, fun i hi => ?_⟩
        · unfold Go.Proofs.Ytbacbgicfomkbaa.tailA
          rw [if_neg h0]
          have e := tailOff_lt (c := c) (k := k) (by omega) off
          show some (⟨b, tailOff c k off, none⟩ : Addr) = _
          rw [e]
        · rw [List.length_drop] at hi
          rw [Nat.add_assoc, hcell (k + i) (by omega)]
          simp [B, List.getElem?_drop]
/-- What a tail's address is. -/
theorem tailA_cases {c k : Nat} {ad : Option Addr} {q : Addr} (h : tailA c k ad = some q) : (k = 0 ∧ ad = some q) ∨ (0 < k ∧ q.spot = none ∧ ∃ p, ad = some p ∧ p.block = q.block) := by
  unfold tailA at h
  by_cases h0 : k = 0
  · rw [if_pos h0] at h; exact .inl ⟨h0, h⟩
  · rw [if_neg h0] at h
    cases ad with
    | none => cases h
    | some p => cases h; exact .inr ⟨by omega, rfl, p, rfl, rfl⟩
/-- Where a slice of bytes lies that is not empty. -/
theorem rd_addr {w : World} {a : Option Addr} {bs : List UInt8} (h : Rd w a bs) (h0 : 0 < bs.length) : ∀ q, a = some q → q.spot = none ∧ q.block < w.heap.size := by
  rcases h.2 with rfl | ⟨b, off, rfl, hc⟩
  · simp at h0
  · intro q hq
    cases hq
    exact ⟨rfl, World.block_lt_of_cell? w _ (hc 0 h0)⟩
theorem rd_grown {w w' : World} {a : Option Addr} {bs : List UInt8} {g : Nat} (h : Rd w a bs) (hb : w.grownBy w' (some g)) (hne : ∀ q, a = some q → 0 < bs.length → q.block ≠ g) : Rd w' a bs := by
  by_cases h0 : 0 < bs.length
  · exact h.grown hb (fun q hq e => hne q hq h0 (Option.some.inj e))
  · exact ⟨h.1, .inl (List.eq_nil_of_length_eq_zero (by omega))⟩
/-- The head of a slice: 'x[:k]'. -/
theorem do_head {P : Program} {a : Act} {w : World} {o : Oper} {t e : TypeId} {x y : Operand} (ho : o.op = .slice t x none (some y) none) (hu : P.underlying t = some (.slice e)) (hs : (P.info? e).map (·.size) = some 1)
    {ad : Option Addr} {n c k : Nat} (hx : a.eval x = .slice ad n c) (hy : a.eval y = .int .i64 (k : Int)) (hk : k ≤ c) (h0 : 0 < c) : (execOp a.eval o).run P w = .ok (.value (.slice ad k c)) w :=
  still_slice_to (S := fun _ => True) ho hu hs hx hy hk h0 w trivial
end Go.Proofs.Ytbacbgicfomkbaa
