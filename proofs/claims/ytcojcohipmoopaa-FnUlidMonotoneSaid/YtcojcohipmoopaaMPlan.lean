/- Plans of a region with guards, over an abstract frame; comparisons that are decided. -/
import Derived.Test.YtcojcohipmoopaaMRnd0
namespace Go.Proofs.Ytcojcohipmoopaa
open Go.RowKit
set_option linter.unusedVariables false
set_option linter.unusedSimpArgs false
section
variable {P : Program} {Q : Exit → Act → World → Prop} {S : World → Prop}
/-- THE BEGINNING, for a region with guards: its own array stands in the goals, the edges and the places do not. -/
theorem region_plan3 {id : Nat} {l : List Oper} {a : Act} {w : World} (S : World → Prop) (plan : List (Nat × Nat)) (hm : P.follows .mixedOrders = true) (hs : Region.noSelect l.toArray = true)
    (hok : planOk .any l.toArray ((plan.filter (·.2 == 0)).map (·.1)) plan (Array.replicate l.length false) = true) (hl : plan.length = l.length)
    (hQ : ∀ c a d v w, Q (.panic c) (a.put d v) w → Q (.panic c) a w) (hS : ∀ w', w'.heap = w.heap → Below w.heap.size w w' → S w')
    (h : ∀ w', w'.heap = w.heap → Below w.heap.size w w' → wpPlan P l.toArray Q S (planOps2 l plan) a w') : (Code.region id l.toArray true).wp P Q a w :=
  region_plan S plan hm hs hok hl hQ hS fun w' h1 h2 => wpPlan_strip _ _ _ (by rw [← planOps2_eq]; exact h w' h1 h2)
variable {l : List Oper} {n : Nat} {L : List (Nat × Value)} {a : Act} {w : World} {k gk d gt : Nat} {rest : List (Nat × Nat)} {c cg : Op} {gg : Option (Nat × Bool)} {pos b : Bool}
theorem plan_on2 {v : Value} (hl : (l[k]?).map coreO = some (c, some d, some (gk, pos))) (hg : (l[gk]?).map coreO = some (cg, some gt, gg)) (hv : a.eval (.tmp gt) = .bool b) (hb : (b == pos) = true) (hk : Keeps n L a) (hd : d < n) (hf : ∀ x ∈ L, d ≠ x.1)
    (hy : ∀ o : Oper, o.op = c → ∀ w', S w' → (execOp a.eval o).run P w' = .ok (.value v) w') (h : ∀ a', Keeps n ((d, v) :: L) a' → wpPlan P l.toArray Q S (planOps2 l rest) a' w) : wpPlan P l.toArray Q S (planOps2 l ((k, 0) :: rest)) a w := by
  obtain ⟨o, ho, hc⟩ := Option.map_eq_some_iff.1 hl
  have h1 : o.op = c := congrArg (fun x => x.1) hc
  have h2 : o.dst = some d := congrArg (fun x => x.2.1) hc
  have h3 : o.guard = some (gk, pos) := congrArg (fun x => x.2.2) hc
  have e : planOps2 l ((k, 0) :: rest) = (0, strip o) :: planOps2 l rest := by
    conv => lhs; unfold planOps2
    rw [List.filterMap_cons]
    simp only [ho, Option.map_some]
    rfl
  rw [e]
  refine plan_still (v := v) (by rw [wanted_by (o := strip o) h3 (yield_bool hg hv)]; exact hb) (hy (strip o) h1) ?_
  have hp : a.put (strip o).dst v = a.put (some d) v := by rw [← h2]; rfl
  rw [hp]
  exact h _ (hk.push hd hf)
theorem plan_off2 (hl : (l[k]?).map coreO = some (c, some d, some (gk, pos))) (hg : (l[gk]?).map coreO = some (cg, some gt, gg)) (hv : a.eval (.tmp gt) = .bool b) (hb : (b == pos) = false) (hk : Keeps n L a) (hd : d < n) (hf : ∀ x ∈ L, d ≠ x.1)
    (h : ∀ a', Keeps n ((d, undef) :: L) a' → wpPlan P l.toArray Q S (planOps2 l rest) a' w) : wpPlan P l.toArray Q S (planOps2 l ((k, 0) :: rest)) a w := by
  obtain ⟨o, ho, hc⟩ := Option.map_eq_some_iff.1 hl
  have h2 : o.dst = some d := congrArg (fun x => x.2.1) hc
  have h3 : o.guard = some (gk, pos) := congrArg (fun x => x.2.2) hc
  have e : planOps2 l ((k, 0) :: rest) = (0, strip o) :: planOps2 l rest := by
    conv => lhs; unfold planOps2
    rw [List.filterMap_cons]
    simp only [ho, Option.map_some]
    rfl
  rw [e]
  refine plan_skip (by rw [wanted_by (o := strip o) h3 (yield_bool hg hv)]; exact hb) ?_
  have hp : a.put (strip o).dst undef = a.put (some d) undef := by rw [← h2]; rfl
  rw [hp]
  exact h _ (hk.push hd hf)
theorem plan_kwG {dd : Option Tmp} (hl : (l[k]?).map coreO = some (c, dd, some (gk, pos))) (hg : (l[gk]?).map coreO = some (cg, some gt, gg)) (hv : a.eval (.tmp gt) = .bool b) (hb : (b == pos) = true)
    (h : ∀ o : Oper, o.op = c → o.dst = dd → Region.wanted o (yielded l.toArray a.tmps) = true → wpList P l.toArray (Exit.then (fun a' w' => S w' ∧ wpPlan P l.toArray Q S (planOps2 l rest) a' w') Q) [o] a w) : wpPlan P l.toArray Q S (planOps2 l ((k, 1) :: rest)) a w := by
  obtain ⟨o, ho, hc⟩ := Option.map_eq_some_iff.1 hl
  have h3 : o.guard = some (gk, pos) := congrArg (fun x => x.2.2) hc
  have e : planOps2 l ((k, 1) :: rest) = (1, strip o) :: planOps2 l rest := by
    conv => lhs; unfold planOps2
    rw [List.filterMap_cons]
    simp only [ho, Option.map_some]
    rfl
  rw [e]
  exact plan_do (h (strip o) (congrArg (fun x => x.1) hc) (congrArg (fun x => x.2.1) hc) (by rw [wanted_by (o := strip o) h3 (yield_bool hg hv)]; exact hb))
theorem wp_callW {OPS : Array Oper} {o : Oper} {rest : List Oper} {f : FuncId} {args : Array Value} {R : Ending → World → Prop} (hg : Region.wanted o (yielded OPS a.tmps) = true) (hy : (execOp a.eval o).run P w = .ok (.enter f args) w) (hc : Calls P f args w R) (h : ∀ e w', R e w' → ∃ v, e = .returned v ∧ wpList P OPS Q rest (a.put o.dst v) w') : wpList P OPS Q (o :: rest) a w :=
  wpList_wanted hg fun K hK => by
    unfold Oper.wp
    rw [hy, Oper.upon_enter]
    exact hc.mono fun e w' he => by obtain ⟨v, rfl, hv⟩ := h e w' he; exact hK _ _ hv
end
section
variable {P : Program} {a : Act} {w : World} {o : Oper} {x y : Operand} {t u : TypeId} {k : IntKind} {m n : Nat}
theorem do_neqF (ho : o.op = .binOp .neq t x y u) (hu : P.underlying t = some (.int k)) (hx : a.eval x = .int k (m : Int)) (hy : a.eval y = .int k (n : Int)) (h : m = n) : (execOp a.eval o).run P w = .ok (.value (.bool false)) w := by rw [← decide_eq_false (show ¬ ¬ m = n from fun c => c h)]; exact do_neq ho hu hx hy
theorem do_gtrF (ho : o.op = .binOp .gtr t x y u) (hu : P.underlying t = some (.int k)) (hx : a.eval x = .int k (m : Int)) (hy : a.eval y = .int k (n : Int)) (h : ¬ n < m) : (execOp a.eval o).run P w = .ok (.value (.bool false)) w := by rw [← decide_eq_false h]; exact do_gtr ho hu hx hy
theorem do_gtrT (ho : o.op = .binOp .gtr t x y u) (hu : P.underlying t = some (.int k)) (hx : a.eval x = .int k (m : Int)) (hy : a.eval y = .int k (n : Int)) (h : n < m) : (execOp a.eval o).run P w = .ok (.value (.bool true)) w := by rw [← decide_eq_true h]; exact do_gtr ho hu hx hy
theorem do_lssF (ho : o.op = .binOp .lss t x y u) (hu : P.underlying t = some (.int k)) (hx : a.eval x = .int k (m : Int)) (hy : a.eval y = .int k (n : Int)) (h : ¬ m < n) : (execOp a.eval o).run P w = .ok (.value (.bool false)) w := by rw [← decide_eq_false h]; exact do_lss ho hu hx hy
theorem do_lssT (ho : o.op = .binOp .lss t x y u) (hu : P.underlying t = some (.int k)) (hx : a.eval x = .int k (m : Int)) (hy : a.eval y = .int k (n : Int)) (h : m < n) : (execOp a.eval o).run P w = .ok (.value (.bool true)) w := by rw [← decide_eq_true h]; exact do_lss ho hu hx hy
end
end Go.Proofs.Ytcojcohipmoopaa
