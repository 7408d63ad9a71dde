/- A frame known by a few of its slots alone: laws over any program. For functions of very many slots. -/
import Derived.Test.YtbacbgicfomkbaaGuard
namespace Go.Proofs.Ytbacbgicfomkbaa
open Go.RowKit
set_option linter.unusedVariables false
set_option linter.unusedSimpArgs false

theorem ev_self {a : Act} {d : Nat} {v : Value} (h : d < a.tmps.size) : (a.put (some d) v).eval (.tmp d) = v := by
  show (a.tmps.setIfInBounds d v).getD d undef = v
  simp [Array.getD_eq_getD_getElem?, h]
theorem ev_ne {a : Act} {d t : Nat} {v : Value} (h : d ≠ t) : (a.put (some d) v).eval (.tmp t) = a.eval (.tmp t) := by
  show (a.tmps.setIfInBounds d v).getD t undef = a.tmps.getD t undef
  rw [Array.getD_eq_getD_getElem?, Array.getD_eq_getD_getElem?, Array.getElem?_setIfInBounds_ne h]
theorem size_put {a : Act} {d : Nat} {v : Value} : (a.put (some d) v).tmps.size = a.tmps.size := by
  show (a.tmps.setIfInBounds d v).size = _
  simp
/-- The frame's size, nothing deferred, and what some slots hold. -/
def Keeps (n : Nat) (L : List (Nat × Value)) (a : Act) : Prop := a.tmps.size = n ∧ a.defers = [] ∧ ∀ x ∈ L, a.eval (.tmp x.1) = x.2
theorem Keeps.put {n : Nat} {L : List (Nat × Value)} {a : Act} (h : Keeps n L a) {d : Nat} (v : Value) (hd : ∀ x ∈ L, d ≠ x.1) : Keeps n L (a.put (some d) v) :=
  ⟨by rw [size_put]; exact h.1, h.2.1, fun x hx => by rw [ev_ne (hd x hx)]; exact h.2.2 x hx⟩
theorem Keeps.none {n : Nat} {L : List (Nat × Value)} {a : Act} (h : Keeps n L a) (v : Value) : Keeps n L (a.put none v) := h
theorem Keeps.at {n : Nat} {L : List (Nat × Value)} {a : Act} (h : Keeps n L a) {t : Nat} {v : Value} (hm : (t, v) ∈ L) : a.eval (.tmp t) = v := h.2.2 _ hm
/-- What an operation is, without its edges, its type and its place. -/
def coreO (o : Oper) : Op × Option Tmp × Option (Nat × Bool) := (o.op, o.dst, o.guard)
theorem wanted_free {ops : Array Oper} {o : Oper} {tm : Array Value} (h : o.guard = none) : Region.wanted o (yielded ops tm) = true := by unfold Region.wanted; rw [h]
theorem wanted_by {ops : Array Oper} {o : Oper} {tm : Array Value} {k : Nat} {pos b : Bool} (h : o.guard = some (k, pos)) (hy : yielded ops tm k = some b) : Region.wanted o (yielded ops tm) = (b == pos) := by
  unfold Region.wanted
  rw [h]
  simp only [hy]
  cases b <;> cases pos <;> rfl
theorem wanted_not {ops : Array Oper} {o : Oper} {tm : Array Value} {k : Nat} {pos : Bool} (h : o.guard = some (k, pos)) (hy : yielded ops tm k = none) : Region.wanted o (yielded ops tm) = false := by
  unfold Region.wanted
  rw [h]
  simp only [hy]
  rfl
theorem yield_bool {l : List Oper} {a : Act} {k t : Nat} {b : Bool} {c : Op} {g : Option (Nat × Bool)} (hl : (l[k]?).map coreO = some (c, some t, g)) (hv : a.eval (.tmp t) = .bool b) : yielded l.toArray a.tmps k = some b := by
  obtain ⟨o, ho, hc⟩ := Option.map_eq_some_iff.1 hl
  have hd : o.dst = some t := congrArg (fun x => x.2.1) hc
  have hv' : a.tmps.getD t undef = .bool b := hv
  unfold yielded
  simp only [List.getElem?_toArray, ho, Option.bind_some, hd]
  rw [Array.getD_eq_getD_getElem?] at hv'
  cases h : a.tmps[t]? with
  | none => rw [h] at hv'; cases hv'
  | some v => rw [h] at hv'; rw [show v = Value.bool b from hv']
theorem yield_undef {l : List Oper} {a : Act} {k t : Nat} {c : Op} {g : Option (Nat × Bool)} (hl : (l[k]?).map coreO = some (c, some t, g)) (hv : a.eval (.tmp t) = undef) : yielded l.toArray a.tmps k = none := by
  obtain ⟨o, ho, hc⟩ := Option.map_eq_some_iff.1 hl
  have hd : o.dst = some t := congrArg (fun x => x.2.1) hc
  have hv' : a.tmps.getD t undef = undef := hv
  unfold yielded
  simp only [List.getElem?_toArray, ho, Option.bind_some, hd]
  rw [Array.getD_eq_getD_getElem?] at hv'
  cases h : a.tmps[t]? with
  | none => rfl
  | some v => rw [h] at hv'; rw [show v = undef from hv']; rfl
section
variable {P : Program} {ops : Array Oper} {Q : Exit → Act → World → Prop} {a : Act} {w : World}
theorem wp_off {o : Oper} {rest : List Oper} (hw : Region.wanted o (yielded ops a.tmps) = false) (h : wpList P ops Q rest (a.put o.dst undef) w) : wpList P ops Q (o :: rest) a w :=
  wpList_step fun K hK => by rw [if_neg (by rw [hw]; decide)]; exact hK _ _ h
theorem drop_step {l : List Oper} {k : Nat} {c : Op} {d : Option Tmp} {g : Option (Nat × Bool)} (hl : (l[k]?).map coreO = some (c, d, g)) (h : ∀ o, o.op = c → o.dst = d → o.guard = g → wpList P ops Q (o :: l.drop (k + 1)) a w) : wpList P ops Q (l.drop k) a w := by
  obtain ⟨o, ho, hc⟩ := Option.map_eq_some_iff.1 hl
  obtain ⟨hk, rfl⟩ := List.getElem?_eq_some_iff.1 ho
  rw [List.drop_eq_getElem_cons hk]
  exact h _ (congrArg (fun x => x.1) hc) (congrArg (fun x => x.2.1) hc) (congrArg (fun x => x.2.2) hc)
/-- A step that yields v: from place k to the next. -/
theorem drop_val {l : List Oper} {k : Nat} {c : Op} {d : Nat} {g : Option (Nat × Bool)} {v : Value} (hl : (l[k]?).map coreO = some (c, some d, g)) (hw : ∀ o : Oper, o.guard = g → Region.wanted o (yielded ops a.tmps) = true) (hy : ∀ o : Oper, o.op = c → (execOp a.eval o).run P w = .ok (.value v) w)
    (h : wpList P ops Q (l.drop (k + 1)) (a.put (some d) v) w) : wpList P ops Q (l.drop k) a w :=
  drop_step hl fun o h1 h2 h3 => wp_val (hw o h3) (hy o h1) (by rw [h2]; exact h)
theorem drop_off {l : List Oper} {k : Nat} {c : Op} {d : Nat} {g : Option (Nat × Bool)} (hl : (l[k]?).map coreO = some (c, some d, g)) (hw : ∀ o : Oper, o.guard = g → Region.wanted o (yielded ops a.tmps) = false)
    (h : wpList P ops Q (l.drop (k + 1)) (a.put (some d) undef) w) : wpList P ops Q (l.drop k) a w :=
  drop_step hl fun o h1 h2 h3 => wp_off (hw o h3) (by rw [h2]; exact h)
theorem do_move {o : Oper} {x : Operand} {v : Value} (ho : o.op = .move x) (hx : a.eval x = v) : (execOp a.eval o).run P w = .ok (.value v) w := by
  unfold execOp; simp only [ho, hx]; rfl
theorem do_pick {o : Oper} {x y z : Operand} {b : Bool} {v : Value} (ho : o.op = .pick x y z) (hx : a.eval x = .bool b) (hv : (if b then a.eval y else a.eval z) = v) : (execOp a.eval o).run P w = .ok (.value v) w := by
  unfold execOp; simp only [ho, hx]
  cases b
  · simp only [Bool.false_eq_true, if_false] at hv
    rw [← hv]; rfl
  · simp only [if_true] at hv
    rw [← hv]; rfl
end
end Go.Proofs.Ytbacbgicfomkbaa
