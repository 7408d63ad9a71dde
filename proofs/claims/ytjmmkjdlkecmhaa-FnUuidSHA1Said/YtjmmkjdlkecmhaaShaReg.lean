/- SHA-1: the regions of the block function, over an abstract frame. -/
import Derived.Test.YtjmmkjdlkecmhaaShaL
namespace Go.Proofs.Ytjmmkjdlkecmhaa
open Go.RowKit
set_option linter.unusedVariables false
set_option linter.unusedSimpArgs false
theorem far_R {d : Nat} {R : List (Nat × Value)} (hR : ∀ x ∈ R, x.1 < 10) (h : 10 ≤ d) : ∀ x ∈ R, d ≠ x.1 := fun x hx => by have := hR x hx; omega
section
variable {P : Program} {OPS : Array Oper} {Q : Exit → Act → World → Prop} {S : World → Prop} {l : List Oper} {a : Act} {w : World} {n : Nat} {L : List (Nat × Value)}
theorem drop_k {k : Nat} {c : Op} {d : Nat} {v : Value} (hl : (l[k]?).map coreO = some (c, some d, none)) (hk : Keeps n L a) (hd : d < n) (hf : ∀ x ∈ L, d ≠ x.1) (hy : ∀ o : Oper, o.op = c → (execOp a.eval o).run P w = .ok (.value v) w)
    (h : ∀ a', Keeps n ((d, v) :: L) a' → wpList P OPS Q (l.drop (k + 1)) a' w) : wpList P OPS Q (l.drop k) a w :=
  drop_val hl (fun _ hg => wanted_free hg) hy (h _ (hk.push hd hf))
theorem drop_end {k : Nat} (hl : l.length = k) (h : Q .normal a w) : wpList P OPS Q (l.drop k) a w := by
  rw [List.drop_of_length_le (by omega)]; exact h
theorem wp_call_same {o : Oper} {rest : List Oper} {f : FuncId} {args : Array Value} {v : Value} (hg : o.guard = none) (hy : (execOp a.eval o).run P w = .ok (.enter f args) w) (hc : Calls P f args w fun e w' => e = .returned v ∧ w' = w) (h : wpList P OPS Q rest (a.put o.dst v) w) : wpList P OPS Q (o :: rest) a w :=
  wpList_plain hg fun K hK => by
    unfold Oper.wp
    rw [hy, Oper.upon_enter]
    exact hc.mono fun e w' ⟨he, hw⟩ => by subst he; subst hw; exact hK _ _ h
theorem drop_call {k : Nat} {c : Op} {d : Nat} {v : Value} {f : FuncId} {args : Array Value} (hl : (l[k]?).map coreO = some (c, some d, none)) (hk : Keeps n L a) (hd : d < n) (hf : ∀ x ∈ L, d ≠ x.1) (hy : ∀ o : Oper, o.op = c → (execOp a.eval o).run P w = .ok (.enter f args) w) (hc : Calls P f args w fun e w' => e = .returned v ∧ w' = w)
    (h : ∀ a', Keeps n ((d, v) :: L) a' → wpList P OPS Q (l.drop (k + 1)) a' w) : wpList P OPS Q (l.drop k) a w :=
  drop_step hl fun o h1 h2 h3 => wp_call_same h3 (hy o h1) hc (by rw [h2]; exact h _ (hk.push hd hf))
theorem lit_start {id : Nat} (h : wpList P l.toArray Q (l.drop 0) a w) : (Code.region id l.toArray false).wp P Q a w := wp_region_lit (by simpa using h)
theorem rot_enter (u v : Value) (w : World) : (callFunc 26 #[u, v]).run Try.prog w = .ok (.enter 26 #[u, v]) w := by
  have h := Try.func26
  go_simp
theorem plan_kc {k : Nat} {rest : List (Nat × Nat)} {c : Op} {d : Nat} {v : Value} {f : FuncId} {args : Array Value} (hl : (l[k]?).map coreO = some (c, some d, none)) (hk : Keeps n L a) (hd : d < n) (hf : ∀ x ∈ L, d ≠ x.1)
    (hy : ∀ o : Oper, o.op = c → ∀ w', S w' → (execOp a.eval o).run P w' = .ok (.enter f args) w') (hcl : ∀ w', S w' → Calls P f args w' fun e w'' => e = .returned v ∧ w'' = w') (h : ∀ a', Keeps n ((d, v) :: L) a' → wpPlan P OPS Q S (planOps2 l rest) a' w) : wpPlan P OPS Q S (planOps2 l ((k, 0) :: rest)) a w := by
  obtain ⟨o, ho, hc⟩ := Option.map_eq_some_iff.1 hl
  have h1 : o.op = c := congrArg (fun x => x.1) hc
  have h2 : o.dst = some d := congrArg (fun x => x.2.1) hc
  have h3 : o.guard = none := congrArg (fun x => x.2.2) hc
  have e : planOps2 l ((k, 0) :: rest) = (0, strip o) :: planOps2 l rest := by
    conv => lhs; unfold planOps2
    rw [List.filterMap_cons]
    simp only [ho, Option.map_some]
    rfl
  rw [e]
  refine plan_call (v := v) (wanted_free (o := strip o) h3) (hy (strip o) h1) hcl ?_
  have hp : a.put (strip o).dst v = a.put (some d) v := by rw [← h2]; rfl
  rw [hp]
  exact h _ (hk.push hd hf)
/-- An operation that writes, kind 1 or 2: by a law on the list of itself alone. -/
theorem plan_kw {k j : Nat} {rest : List (Nat × Nat)} {c : Op} (hl : (l[k]?).map coreO = some (c, none, none))
    (h : ∀ o : Oper, o.op = c → o.dst = none → o.guard = none → wpList P OPS (Exit.then (fun a' w' => S w' ∧ wpPlan P OPS Q S (planOps2 l rest) a' w') Q) [o] a w) : wpPlan P OPS Q S (planOps2 l ((k, j + 1) :: rest)) a w := by
  obtain ⟨o, ho, hc⟩ := Option.map_eq_some_iff.1 hl
  have e : planOps2 l ((k, j + 1) :: rest) = (j + 1, strip o) :: planOps2 l rest := by
    conv => lhs; unfold planOps2
    rw [List.filterMap_cons]
    simp only [ho, Option.map_some]
    rfl
  rw [e]
  have hh := h (strip o) (congrArg (fun x => x.1) hc) (congrArg (fun x => x.2.1) hc) (congrArg (fun x => x.2.2) hc)
  cases j with
  | zero => exact plan_do hh
  | succ j => exact single_mono (fun a' w' h' => h'.2) hh
theorem plan_kl {k : Nat} {rest : List (Nat × Nat)} {c : Op} (hl : (l[k]?).map coreO = some (c, none, none))
    (h : ∀ o : Oper, o.op = c → o.dst = none → o.guard = none → wpList P OPS (Exit.then (fun a' w' => wpPlan P OPS Q S (planOps2 l rest) a' w') Q) [o] a w) : wpPlan P OPS Q S (planOps2 l ((k, 2) :: rest)) a w := by
  obtain ⟨o, ho, hc⟩ := Option.map_eq_some_iff.1 hl
  have e : planOps2 l ((k, 2) :: rest) = (2, strip o) :: planOps2 l rest := by
    conv => lhs; unfold planOps2
    rw [List.filterMap_cons]
    simp only [ho, Option.map_some]
    rfl
  rw [e]
  exact plan_last (h (strip o) (congrArg (fun x => x.1) hc) (congrArg (fun x => x.2.1) hc) (congrArg (fun x => x.2.2) hc))
end
/-- What a frame holds in the rounds. -/
def Cells16 (w : World) (gw : Nat) (W : List Int) : Prop := W.length = 16 ∧ ∃ t, Blk w gw (W.map (Value.int .u32)) t
theorem Cells16.at {w : World} {gw : Nat} {W : List Int} (h : Cells16 w gw W) (j : Nat) (hj : j < 16) : w.cell? ⟨gw, j, none⟩ = some (.int .u32 (wAt W j)) := by
  obtain ⟨hl, t, hB⟩ := h
  rw [hB.cell, List.getElem?_map, List.getElem?_eq_getElem (by omega)]
  simp [wAt, hl, hj]
theorem Cells16.kept {w w' : World} {gw : Nat} {W : List Int} (h : Cells16 w gw W) (hb : Below w.heap.size w w') : Cells16 w' gw W := by
  obtain ⟨hl, t, hB⟩ := h
  exact ⟨hl, t, hB.kept hb⟩

structure RegFA (l : List Oper) (b d : Nat) : Prop where
  len : l.length = 9
  o0 : (l[0]?).map coreO = some (.move (.tmp 13), (some (b)), none)
  o1 : (l[1]?).map coreO = some (.move (.tmp 14), (some (b + 1)), none)
  o2 : (l[2]?).map coreO = some (.binOp .and 43 (.tmp (b)) (.tmp (b + 1)) 43, (some (b + 2)), none)
  o3 : (l[3]?).map coreO = some (.move (.tmp 13), (some (b + 3)), none)
  o4 : (l[4]?).map coreO = some (.unOp .xor 43 (.tmp (b + 3)), (some (b + 4)), none)
  o5 : (l[5]?).map coreO = some (.move (.tmp 15), (some (b + 5)), none)
  o6 : (l[6]?).map coreO = some (.binOp .and 43 (.tmp (b + 4)) (.tmp (b + 5)) 43, (some (b + 6)), none)
  o7 : (l[7]?).map coreO = some (.binOp .or 43 (.tmp (b + 2)) (.tmp (b + 6)) 43, (some (b + 7)), none)
  o8 : (l[8]?).map coreO = some (.assign (.tmp (b + 7)), (some (d)), none)
theorem RegFA_ok {Q : Exit → Act → World → Prop} {id : Nat} {l : List Oper} {a : Act} {w : World} {gw i : Nat} {s : St} {R : List (Nat × Value)} {b d : Nat} (hO : RegFA l b d) (h1 : 57 ≤ b) (h2 : b + 7 ≤ 396) (h3 : 18 ≤ d) (h4 : d < 57) (hR : ∀ x ∈ R, x.1 < 10) (hk : Keeps 397 ((4, .pointer (some ⟨gw, 0, none⟩)) :: (12, .int .u32 (s.a)) :: (13, .int .u32 (s.b)) :: (14, .int .u32 (s.c)) :: (15, .int .u32 (s.d)) :: (16, .int .u32 (s.e)) :: (17, .int .i64 ((i : Nat) : Int)) :: R) a)
    (h : ∀ a', Keeps 397 ((d, .int .u32 (fA s.b s.c s.d)) :: (4, .pointer (some ⟨gw, 0, none⟩)) :: (12, .int .u32 (s.a)) :: (13, .int .u32 (s.b)) :: (14, .int .u32 (s.c)) :: (15, .int .u32 (s.d)) :: (16, .int .u32 (s.e)) :: (17, .int .i64 ((i : Nat) : Int)) :: R) a' → Q .normal a' w) : (Code.region id l.toArray false).wp Try.prog Q a w := by
  refine lit_start ?_
  refine drop_k hO.o0 hk (by omega) (by repeat' (first | exact far_nil _ | exact far_R hR (by omega) | refine far_cons (by omega) ?_)) (v := .int .u32 (s.b)) (fun o ho => do_move ho (hk.at (List.mem_cons_of_mem _ (List.mem_cons_of_mem _ (List.mem_cons_self ..))))) ?_
  clear hk; intro a hk
  refine drop_k hO.o1 hk (by omega) (by repeat' (first | exact far_nil _ | exact far_R hR (by omega) | refine far_cons (by omega) ?_)) (v := .int .u32 (s.c)) (fun o ho => do_move ho (hk.at (List.mem_cons_of_mem _ (List.mem_cons_of_mem _ (List.mem_cons_of_mem _ (List.mem_cons_of_mem _ (List.mem_cons_self ..))))))) ?_
  clear hk; intro a hk
  refine drop_k hO.o2 hk (by omega) (by repeat' (first | exact far_nil _ | exact far_R hR (by omega) | refine far_cons (by omega) ?_)) (v := .int .u32 (uAnd (s.b) (s.c))) (fun o ho => do_and ho (hk.at (List.mem_cons_of_mem _ (List.mem_cons_self ..))) (hk.at (List.mem_cons_self ..))) ?_
  clear hk; intro a hk
  refine drop_k hO.o3 hk (by omega) (by repeat' (first | exact far_nil _ | exact far_R hR (by omega) | refine far_cons (by omega) ?_)) (v := .int .u32 (s.b)) (fun o ho => do_move ho (hk.at (List.mem_cons_of_mem _ (List.mem_cons_of_mem _ (List.mem_cons_of_mem _ (List.mem_cons_of_mem _ (List.mem_cons_of_mem _ (List.mem_cons_self ..)))))))) ?_
  clear hk; intro a hk
  refine drop_k hO.o4 hk (by omega) (by repeat' (first | exact far_nil _ | exact far_R hR (by omega) | refine far_cons (by omega) ?_)) (v := .int .u32 (uNot (s.b))) (fun o ho => do_not ho (hk.at (List.mem_cons_self ..))) ?_
  clear hk; intro a hk
  refine drop_k hO.o5 hk (by omega) (by repeat' (first | exact far_nil _ | exact far_R hR (by omega) | refine far_cons (by omega) ?_)) (v := .int .u32 (s.d)) (fun o ho => do_move ho (hk.at (List.mem_cons_of_mem _ (List.mem_cons_of_mem _ (List.mem_cons_of_mem _ (List.mem_cons_of_mem _ (List.mem_cons_of_mem _ (List.mem_cons_of_mem _ (List.mem_cons_of_mem _ (List.mem_cons_of_mem _ (List.mem_cons_of_mem _ (List.mem_cons_self ..)))))))))))) ?_
  clear hk; intro a hk
  refine drop_k hO.o6 hk (by omega) (by repeat' (first | exact far_nil _ | exact far_R hR (by omega) | refine far_cons (by omega) ?_)) (v := .int .u32 (uAnd (uNot (s.b)) (s.d))) (fun o ho => do_and ho (hk.at (List.mem_cons_of_mem _ (List.mem_cons_self ..))) (hk.at (List.mem_cons_self ..))) ?_
  clear hk; intro a hk
  refine drop_k hO.o7 hk (by omega) (by repeat' (first | exact far_nil _ | exact far_R hR (by omega) | refine far_cons (by omega) ?_)) (v := .int .u32 (uOr (uAnd (s.b) (s.c)) (uAnd (uNot (s.b)) (s.d)))) (fun o ho => do_or32 ho (hk.at (List.mem_cons_of_mem _ (List.mem_cons_of_mem _ (List.mem_cons_of_mem _ (List.mem_cons_of_mem _ (List.mem_cons_self ..)))))) (hk.at (List.mem_cons_self ..))) ?_
  clear hk; intro a hk
  refine drop_k hO.o8 hk (by omega) (by repeat' (first | exact far_nil _ | exact far_R hR (by omega) | refine far_cons (by omega) ?_)) (v := .int .u32 (uOr (uAnd (s.b) (s.c)) (uAnd (uNot (s.b)) (s.d)))) (fun o ho => do_assign ho (hk.at (List.mem_cons_self ..))) ?_
  clear hk; intro a hk
  refine drop_end hO.len ?_
  refine h _ ?_
  refine ⟨hk.1, hk.2.1, fun x hx => hk.2.2 x ?_⟩
  rcases List.mem_cons.1 hx with rfl | hx
  · exact List.mem_cons_self ..
  rcases List.mem_cons.1 hx with rfl | hx
  · exact List.mem_cons_of_mem _ (List.mem_cons_of_mem _ (List.mem_cons_of_mem _ (List.mem_cons_of_mem _ (List.mem_cons_of_mem _ (List.mem_cons_of_mem _ (List.mem_cons_of_mem _ (List.mem_cons_of_mem _ (List.mem_cons_of_mem _ (List.mem_cons_self ..)))))))))
  rcases List.mem_cons.1 hx with rfl | hx
  · exact List.mem_cons_of_mem _ (List.mem_cons_of_mem _ (List.mem_cons_of_mem _ (List.mem_cons_of_mem _ (List.mem_cons_of_mem _ (List.mem_cons_of_mem _ (List.mem_cons_of_mem _ (List.mem_cons_of_mem _ (List.mem_cons_of_mem _ (List.mem_cons_of_mem _ (List.mem_cons_self ..))))))))))
  rcases List.mem_cons.1 hx with rfl | hx
  · exact List.mem_cons_of_mem _ (List.mem_cons_of_mem _ (List.mem_cons_of_mem _ (List.mem_cons_of_mem _ (List.mem_cons_of_mem _ (List.mem_cons_of_mem _ (List.mem_cons_of_mem _ (List.mem_cons_of_mem _ (List.mem_cons_of_mem _ (List.mem_cons_of_mem _ (List.mem_cons_of_mem _ (List.mem_cons_self ..)))))))))))
  rcases List.mem_cons.1 hx with rfl | hx
  · exact List.mem_cons_of_mem _ (List.mem_cons_of_mem _ (List.mem_cons_of_mem _ (List.mem_cons_of_mem _ (List.mem_cons_of_mem _ (List.mem_cons_of_mem _ (List.mem_cons_of_mem _ (List.mem_cons_of_mem _ (List.mem_cons_of_mem _ (List.mem_cons_of_mem _ (List.mem_cons_of_mem _ (List.mem_cons_of_mem _ (List.mem_cons_self ..))))))))))))
  rcases List.mem_cons.1 hx with rfl | hx
  · exact List.mem_cons_of_mem _ (List.mem_cons_of_mem _ (List.mem_cons_of_mem _ (List.mem_cons_of_mem _ (List.mem_cons_of_mem _ (List.mem_cons_of_mem _ (List.mem_cons_of_mem _ (List.mem_cons_of_mem _ (List.mem_cons_of_mem _ (List.mem_cons_of_mem _ (List.mem_cons_of_mem _ (List.mem_cons_of_mem _ (List.mem_cons_of_mem _ (List.mem_cons_self ..)))))))))))))
  rcases List.mem_cons.1 hx with rfl | hx
  · exact List.mem_cons_of_mem _ (List.mem_cons_of_mem _ (List.mem_cons_of_mem _ (List.mem_cons_of_mem _ (List.mem_cons_of_mem _ (List.mem_cons_of_mem _ (List.mem_cons_of_mem _ (List.mem_cons_of_mem _ (List.mem_cons_of_mem _ (List.mem_cons_of_mem _ (List.mem_cons_of_mem _ (List.mem_cons_of_mem _ (List.mem_cons_of_mem _ (List.mem_cons_of_mem _ (List.mem_cons_self ..))))))))))))))
  rcases List.mem_cons.1 hx with rfl | hx
  · exact List.mem_cons_of_mem _ (List.mem_cons_of_mem _ (List.mem_cons_of_mem _ (List.mem_cons_of_mem _ (List.mem_cons_of_mem _ (List.mem_cons_of_mem _ (List.mem_cons_of_mem _ (List.mem_cons_of_mem _ (List.mem_cons_of_mem _ (List.mem_cons_of_mem _ (List.mem_cons_of_mem _ (List.mem_cons_of_mem _ (List.mem_cons_of_mem _ (List.mem_cons_of_mem _ (List.mem_cons_of_mem _ (List.mem_cons_self ..)))))))))))))))
  exact List.mem_cons_of_mem _ (List.mem_cons_of_mem _ (List.mem_cons_of_mem _ (List.mem_cons_of_mem _ (List.mem_cons_of_mem _ (List.mem_cons_of_mem _ (List.mem_cons_of_mem _ (List.mem_cons_of_mem _ (List.mem_cons_of_mem _ (List.mem_cons_of_mem _ (List.mem_cons_of_mem _ (List.mem_cons_of_mem _ (List.mem_cons_of_mem _ (List.mem_cons_of_mem _ (List.mem_cons_of_mem _ (List.mem_cons_of_mem _ (hx))))))))))))))))
structure RegFB (l : List Oper) (b d : Nat) : Prop where
  len : l.length = 6
  o0 : (l[0]?).map coreO = some (.move (.tmp 13), (some (b)), none)
  o1 : (l[1]?).map coreO = some (.move (.tmp 14), (some (b + 1)), none)
  o2 : (l[2]?).map coreO = some (.binOp .xor 43 (.tmp (b)) (.tmp (b + 1)) 43, (some (b + 2)), none)
  o3 : (l[3]?).map coreO = some (.move (.tmp 15), (some (b + 3)), none)
  o4 : (l[4]?).map coreO = some (.binOp .xor 43 (.tmp (b + 2)) (.tmp (b + 3)) 43, (some (b + 4)), none)
  o5 : (l[5]?).map coreO = some (.assign (.tmp (b + 4)), (some (d)), none)
theorem RegFB_ok {Q : Exit → Act → World → Prop} {id : Nat} {l : List Oper} {a : Act} {w : World} {gw i : Nat} {s : St} {R : List (Nat × Value)} {b d : Nat} (hO : RegFB l b d) (h1 : 57 ≤ b) (h2 : b + 4 ≤ 396) (h3 : 18 ≤ d) (h4 : d < 57) (hR : ∀ x ∈ R, x.1 < 10) (hk : Keeps 397 ((4, .pointer (some ⟨gw, 0, none⟩)) :: (12, .int .u32 (s.a)) :: (13, .int .u32 (s.b)) :: (14, .int .u32 (s.c)) :: (15, .int .u32 (s.d)) :: (16, .int .u32 (s.e)) :: (17, .int .i64 ((i : Nat) : Int)) :: R) a)
    (h : ∀ a', Keeps 397 ((d, .int .u32 (fB s.b s.c s.d)) :: (4, .pointer (some ⟨gw, 0, none⟩)) :: (12, .int .u32 (s.a)) :: (13, .int .u32 (s.b)) :: (14, .int .u32 (s.c)) :: (15, .int .u32 (s.d)) :: (16, .int .u32 (s.e)) :: (17, .int .i64 ((i : Nat) : Int)) :: R) a' → Q .normal a' w) : (Code.region id l.toArray false).wp Try.prog Q a w := by
  refine lit_start ?_
  refine drop_k hO.o0 hk (by omega) (by repeat' (first | exact far_nil _ | exact far_R hR (by omega) | refine far_cons (by omega) ?_)) (v := .int .u32 (s.b)) (fun o ho => do_move ho (hk.at (List.mem_cons_of_mem _ (List.mem_cons_of_mem _ (List.mem_cons_self ..))))) ?_
  clear hk; intro a hk
  refine drop_k hO.o1 hk (by omega) (by repeat' (first | exact far_nil _ | exact far_R hR (by omega) | refine far_cons (by omega) ?_)) (v := .int .u32 (s.c)) (fun o ho => do_move ho (hk.at (List.mem_cons_of_mem _ (List.mem_cons_of_mem _ (List.mem_cons_of_mem _ (List.mem_cons_of_mem _ (List.mem_cons_self ..))))))) ?_
  clear hk; intro a hk
  refine drop_k hO.o2 hk (by omega) (by repeat' (first | exact far_nil _ | exact far_R hR (by omega) | refine far_cons (by omega) ?_)) (v := .int .u32 (uXor (s.b) (s.c))) (fun o ho => do_xor ho (hk.at (List.mem_cons_of_mem _ (List.mem_cons_self ..))) (hk.at (List.mem_cons_self ..))) ?_
  clear hk; intro a hk
  refine drop_k hO.o3 hk (by omega) (by repeat' (first | exact far_nil _ | exact far_R hR (by omega) | refine far_cons (by omega) ?_)) (v := .int .u32 (s.d)) (fun o ho => do_move ho (hk.at (List.mem_cons_of_mem _ (List.mem_cons_of_mem _ (List.mem_cons_of_mem _ (List.mem_cons_of_mem _ (List.mem_cons_of_mem _ (List.mem_cons_of_mem _ (List.mem_cons_of_mem _ (List.mem_cons_self ..)))))))))) ?_
  clear hk; intro a hk
  refine drop_k hO.o4 hk (by omega) (by repeat' (first | exact far_nil _ | exact far_R hR (by omega) | refine far_cons (by omega) ?_)) (v := .int .u32 (uXor (uXor (s.b) (s.c)) (s.d))) (fun o ho => do_xor ho (hk.at (List.mem_cons_of_mem _ (List.mem_cons_self ..))) (hk.at (List.mem_cons_self ..))) ?_
  clear hk; intro a hk
  refine drop_k hO.o5 hk (by omega) (by repeat' (first | exact far_nil _ | exact far_R hR (by omega) | refine far_cons (by omega) ?_)) (v := .int .u32 (uXor (uXor (s.b) (s.c)) (s.d))) (fun o ho => do_assign ho (hk.at (List.mem_cons_self ..))) ?_
  clear hk; intro a hk
  refine drop_end hO.len ?_
  refine h _ ?_
  refine ⟨hk.1, hk.2.1, fun x hx => hk.2.2 x ?_⟩
  rcases List.mem_cons.1 hx with rfl | hx
  · exact List.mem_cons_self ..
  rcases List.mem_cons.1 hx with rfl | hx
  · exact List.mem_cons_of_mem _ (List.mem_cons_of_mem _ (List.mem_cons_of_mem _ (List.mem_cons_of_mem _ (List.mem_cons_of_mem _ (List.mem_cons_of_mem _ (List.mem_cons_self ..))))))
  rcases List.mem_cons.1 hx with rfl | hx
  · exact List.mem_cons_of_mem _ (List.mem_cons_of_mem _ (List.mem_cons_of_mem _ (List.mem_cons_of_mem _ (List.mem_cons_of_mem _ (List.mem_cons_of_mem _ (List.mem_cons_of_mem _ (List.mem_cons_self ..)))))))
  rcases List.mem_cons.1 hx with rfl | hx
  · exact List.mem_cons_of_mem _ (List.mem_cons_of_mem _ (List.mem_cons_of_mem _ (List.mem_cons_of_mem _ (List.mem_cons_of_mem _ (List.mem_cons_of_mem _ (List.mem_cons_of_mem _ (List.mem_cons_of_mem _ (List.mem_cons_self ..))))))))
  rcases List.mem_cons.1 hx with rfl | hx
  · exact List.mem_cons_of_mem _ (List.mem_cons_of_mem _ (List.mem_cons_of_mem _ (List.mem_cons_of_mem _ (List.mem_cons_of_mem _ (List.mem_cons_of_mem _ (List.mem_cons_of_mem _ (List.mem_cons_of_mem _ (List.mem_cons_of_mem _ (List.mem_cons_self ..)))))))))
  rcases List.mem_cons.1 hx with rfl | hx
  · exact List.mem_cons_of_mem _ (List.mem_cons_of_mem _ (List.mem_cons_of_mem _ (List.mem_cons_of_mem _ (List.mem_cons_of_mem _ (List.mem_cons_of_mem _ (List.mem_cons_of_mem _ (List.mem_cons_of_mem _ (List.mem_cons_of_mem _ (List.mem_cons_of_mem _ (List.mem_cons_self ..))))))))))
  rcases List.mem_cons.1 hx with rfl | hx
  · exact List.mem_cons_of_mem _ (List.mem_cons_of_mem _ (List.mem_cons_of_mem _ (List.mem_cons_of_mem _ (List.mem_cons_of_mem _ (List.mem_cons_of_mem _ (List.mem_cons_of_mem _ (List.mem_cons_of_mem _ (List.mem_cons_of_mem _ (List.mem_cons_of_mem _ (List.mem_cons_of_mem _ (List.mem_cons_self ..)))))))))))
  rcases List.mem_cons.1 hx with rfl | hx
  · exact List.mem_cons_of_mem _ (List.mem_cons_of_mem _ (List.mem_cons_of_mem _ (List.mem_cons_of_mem _ (List.mem_cons_of_mem _ (List.mem_cons_of_mem _ (List.mem_cons_of_mem _ (List.mem_cons_of_mem _ (List.mem_cons_of_mem _ (List.mem_cons_of_mem _ (List.mem_cons_of_mem _ (List.mem_cons_of_mem _ (List.mem_cons_self ..))))))))))))
  exact List.mem_cons_of_mem _ (List.mem_cons_of_mem _ (List.mem_cons_of_mem _ (List.mem_cons_of_mem _ (List.mem_cons_of_mem _ (List.mem_cons_of_mem _ (List.mem_cons_of_mem _ (List.mem_cons_of_mem _ (List.mem_cons_of_mem _ (List.mem_cons_of_mem _ (List.mem_cons_of_mem _ (List.mem_cons_of_mem _ (List.mem_cons_of_mem _ (hx)))))))))))))
structure RegFC (l : List Oper) (b d : Nat) : Prop where
  len : l.length = 10
  o0 : (l[0]?).map coreO = some (.move (.tmp 13), (some (b)), none)
  o1 : (l[1]?).map coreO = some (.move (.tmp 14), (some (b + 1)), none)
  o2 : (l[2]?).map coreO = some (.binOp .or 43 (.tmp (b)) (.tmp (b + 1)) 43, (some (b + 2)), none)
  o3 : (l[3]?).map coreO = some (.move (.tmp 15), (some (b + 3)), none)
  o4 : (l[4]?).map coreO = some (.binOp .and 43 (.tmp (b + 2)) (.tmp (b + 3)) 43, (some (b + 4)), none)
  o5 : (l[5]?).map coreO = some (.move (.tmp 13), (some (b + 5)), none)
  o6 : (l[6]?).map coreO = some (.move (.tmp 14), (some (b + 6)), none)
  o7 : (l[7]?).map coreO = some (.binOp .and 43 (.tmp (b + 5)) (.tmp (b + 6)) 43, (some (b + 7)), none)
  o8 : (l[8]?).map coreO = some (.binOp .or 43 (.tmp (b + 4)) (.tmp (b + 7)) 43, (some (b + 8)), none)
  o9 : (l[9]?).map coreO = some (.assign (.tmp (b + 8)), (some (d)), none)
theorem RegFC_ok {Q : Exit → Act → World → Prop} {id : Nat} {l : List Oper} {a : Act} {w : World} {gw i : Nat} {s : St} {R : List (Nat × Value)} {b d : Nat} (hO : RegFC l b d) (h1 : 57 ≤ b) (h2 : b + 8 ≤ 396) (h3 : 18 ≤ d) (h4 : d < 57) (hR : ∀ x ∈ R, x.1 < 10) (hk : Keeps 397 ((4, .pointer (some ⟨gw, 0, none⟩)) :: (12, .int .u32 (s.a)) :: (13, .int .u32 (s.b)) :: (14, .int .u32 (s.c)) :: (15, .int .u32 (s.d)) :: (16, .int .u32 (s.e)) :: (17, .int .i64 ((i : Nat) : Int)) :: R) a)
    (h : ∀ a', Keeps 397 ((d, .int .u32 (fC s.b s.c s.d)) :: (4, .pointer (some ⟨gw, 0, none⟩)) :: (12, .int .u32 (s.a)) :: (13, .int .u32 (s.b)) :: (14, .int .u32 (s.c)) :: (15, .int .u32 (s.d)) :: (16, .int .u32 (s.e)) :: (17, .int .i64 ((i : Nat) : Int)) :: R) a' → Q .normal a' w) : (Code.region id l.toArray false).wp Try.prog Q a w := by
  refine lit_start ?_
  refine drop_k hO.o0 hk (by omega) (by repeat' (first | exact far_nil _ | exact far_R hR (by omega) | refine far_cons (by omega) ?_)) (v := .int .u32 (s.b)) (fun o ho => do_move ho (hk.at (List.mem_cons_of_mem _ (List.mem_cons_of_mem _ (List.mem_cons_self ..))))) ?_
  clear hk; intro a hk
  refine drop_k hO.o1 hk (by omega) (by repeat' (first | exact far_nil _ | exact far_R hR (by omega) | refine far_cons (by omega) ?_)) (v := .int .u32 (s.c)) (fun o ho => do_move ho (hk.at (List.mem_cons_of_mem _ (List.mem_cons_of_mem _ (List.mem_cons_of_mem _ (List.mem_cons_of_mem _ (List.mem_cons_self ..))))))) ?_
  clear hk; intro a hk
  refine drop_k hO.o2 hk (by omega) (by repeat' (first | exact far_nil _ | exact far_R hR (by omega) | refine far_cons (by omega) ?_)) (v := .int .u32 (uOr (s.b) (s.c))) (fun o ho => do_or32 ho (hk.at (List.mem_cons_of_mem _ (List.mem_cons_self ..))) (hk.at (List.mem_cons_self ..))) ?_
  clear hk; intro a hk
  refine drop_k hO.o3 hk (by omega) (by repeat' (first | exact far_nil _ | exact far_R hR (by omega) | refine far_cons (by omega) ?_)) (v := .int .u32 (s.d)) (fun o ho => do_move ho (hk.at (List.mem_cons_of_mem _ (List.mem_cons_of_mem _ (List.mem_cons_of_mem _ (List.mem_cons_of_mem _ (List.mem_cons_of_mem _ (List.mem_cons_of_mem _ (List.mem_cons_of_mem _ (List.mem_cons_self ..)))))))))) ?_
  clear hk; intro a hk
  refine drop_k hO.o4 hk (by omega) (by repeat' (first | exact far_nil _ | exact far_R hR (by omega) | refine far_cons (by omega) ?_)) (v := .int .u32 (uAnd (uOr (s.b) (s.c)) (s.d))) (fun o ho => do_and ho (hk.at (List.mem_cons_of_mem _ (List.mem_cons_self ..))) (hk.at (List.mem_cons_self ..))) ?_
  clear hk; intro a hk
  refine drop_k hO.o5 hk (by omega) (by repeat' (first | exact far_nil _ | exact far_R hR (by omega) | refine far_cons (by omega) ?_)) (v := .int .u32 (s.b)) (fun o ho => do_move ho (hk.at (List.mem_cons_of_mem _ (List.mem_cons_of_mem _ (List.mem_cons_of_mem _ (List.mem_cons_of_mem _ (List.mem_cons_of_mem _ (List.mem_cons_of_mem _ (List.mem_cons_of_mem _ (List.mem_cons_self ..)))))))))) ?_
  clear hk; intro a hk
  refine drop_k hO.o6 hk (by omega) (by repeat' (first | exact far_nil _ | exact far_R hR (by omega) | refine far_cons (by omega) ?_)) (v := .int .u32 (s.c)) (fun o ho => do_move ho (hk.at (List.mem_cons_of_mem _ (List.mem_cons_of_mem _ (List.mem_cons_of_mem _ (List.mem_cons_of_mem _ (List.mem_cons_of_mem _ (List.mem_cons_of_mem _ (List.mem_cons_of_mem _ (List.mem_cons_of_mem _ (List.mem_cons_of_mem _ (List.mem_cons_self ..)))))))))))) ?_
  clear hk; intro a hk
  refine drop_k hO.o7 hk (by omega) (by repeat' (first | exact far_nil _ | exact far_R hR (by omega) | refine far_cons (by omega) ?_)) (v := .int .u32 (uAnd (s.b) (s.c))) (fun o ho => do_and ho (hk.at (List.mem_cons_of_mem _ (List.mem_cons_self ..))) (hk.at (List.mem_cons_self ..))) ?_
  clear hk; intro a hk
  refine drop_k hO.o8 hk (by omega) (by repeat' (first | exact far_nil _ | exact far_R hR (by omega) | refine far_cons (by omega) ?_)) (v := .int .u32 (uOr (uAnd (uOr (s.b) (s.c)) (s.d)) (uAnd (s.b) (s.c)))) (fun o ho => do_or32 ho (hk.at (List.mem_cons_of_mem _ (List.mem_cons_of_mem _ (List.mem_cons_of_mem _ (List.mem_cons_self ..))))) (hk.at (List.mem_cons_self ..))) ?_
  clear hk; intro a hk
  refine drop_k hO.o9 hk (by omega) (by repeat' (first | exact far_nil _ | exact far_R hR (by omega) | refine far_cons (by omega) ?_)) (v := .int .u32 (uOr (uAnd (uOr (s.b) (s.c)) (s.d)) (uAnd (s.b) (s.c)))) (fun o ho => do_assign ho (hk.at (List.mem_cons_self ..))) ?_
  clear hk; intro a hk
  refine drop_end hO.len ?_
  refine h _ ?_
  refine ⟨hk.1, hk.2.1, fun x hx => hk.2.2 x ?_⟩
  rcases List.mem_cons.1 hx with rfl | hx
  · exact List.mem_cons_self ..
  rcases List.mem_cons.1 hx with rfl | hx
  · exact List.mem_cons_of_mem _ (List.mem_cons_of_mem _ (List.mem_cons_of_mem _ (List.mem_cons_of_mem _ (List.mem_cons_of_mem _ (List.mem_cons_of_mem _ (List.mem_cons_of_mem _ (List.mem_cons_of_mem _ (List.mem_cons_of_mem _ (List.mem_cons_of_mem _ (List.mem_cons_self ..))))))))))
  rcases List.mem_cons.1 hx with rfl | hx
  · exact List.mem_cons_of_mem _ (List.mem_cons_of_mem _ (List.mem_cons_of_mem _ (List.mem_cons_of_mem _ (List.mem_cons_of_mem _ (List.mem_cons_of_mem _ (List.mem_cons_of_mem _ (List.mem_cons_of_mem _ (List.mem_cons_of_mem _ (List.mem_cons_of_mem _ (List.mem_cons_of_mem _ (List.mem_cons_self ..)))))))))))
  rcases List.mem_cons.1 hx with rfl | hx
  · exact List.mem_cons_of_mem _ (List.mem_cons_of_mem _ (List.mem_cons_of_mem _ (List.mem_cons_of_mem _ (List.mem_cons_of_mem _ (List.mem_cons_of_mem _ (List.mem_cons_of_mem _ (List.mem_cons_of_mem _ (List.mem_cons_of_mem _ (List.mem_cons_of_mem _ (List.mem_cons_of_mem _ (List.mem_cons_of_mem _ (List.mem_cons_self ..))))))))))))
  rcases List.mem_cons.1 hx with rfl | hx
  · exact List.mem_cons_of_mem _ (List.mem_cons_of_mem _ (List.mem_cons_of_mem _ (List.mem_cons_of_mem _ (List.mem_cons_of_mem _ (List.mem_cons_of_mem _ (List.mem_cons_of_mem _ (List.mem_cons_of_mem _ (List.mem_cons_of_mem _ (List.mem_cons_of_mem _ (List.mem_cons_of_mem _ (List.mem_cons_of_mem _ (List.mem_cons_of_mem _ (List.mem_cons_self ..)))))))))))))
  rcases List.mem_cons.1 hx with rfl | hx
  · exact List.mem_cons_of_mem _ (List.mem_cons_of_mem _ (List.mem_cons_of_mem _ (List.mem_cons_of_mem _ (List.mem_cons_of_mem _ (List.mem_cons_of_mem _ (List.mem_cons_of_mem _ (List.mem_cons_of_mem _ (List.mem_cons_of_mem _ (List.mem_cons_of_mem _ (List.mem_cons_of_mem _ (List.mem_cons_of_mem _ (List.mem_cons_of_mem _ (List.mem_cons_of_mem _ (List.mem_cons_self ..))))))))))))))
  rcases List.mem_cons.1 hx with rfl | hx
  · exact List.mem_cons_of_mem _ (List.mem_cons_of_mem _ (List.mem_cons_of_mem _ (List.mem_cons_of_mem _ (List.mem_cons_of_mem _ (List.mem_cons_of_mem _ (List.mem_cons_of_mem _ (List.mem_cons_of_mem _ (List.mem_cons_of_mem _ (List.mem_cons_of_mem _ (List.mem_cons_of_mem _ (List.mem_cons_of_mem _ (List.mem_cons_of_mem _ (List.mem_cons_of_mem _ (List.mem_cons_of_mem _ (List.mem_cons_self ..)))))))))))))))
  rcases List.mem_cons.1 hx with rfl | hx
  · exact List.mem_cons_of_mem _ (List.mem_cons_of_mem _ (List.mem_cons_of_mem _ (List.mem_cons_of_mem _ (List.mem_cons_of_mem _ (List.mem_cons_of_mem _ (List.mem_cons_of_mem _ (List.mem_cons_of_mem _ (List.mem_cons_of_mem _ (List.mem_cons_of_mem _ (List.mem_cons_of_mem _ (List.mem_cons_of_mem _ (List.mem_cons_of_mem _ (List.mem_cons_of_mem _ (List.mem_cons_of_mem _ (List.mem_cons_of_mem _ (List.mem_cons_self ..))))))))))))))))
  exact List.mem_cons_of_mem _ (List.mem_cons_of_mem _ (List.mem_cons_of_mem _ (List.mem_cons_of_mem _ (List.mem_cons_of_mem _ (List.mem_cons_of_mem _ (List.mem_cons_of_mem _ (List.mem_cons_of_mem _ (List.mem_cons_of_mem _ (List.mem_cons_of_mem _ (List.mem_cons_of_mem _ (List.mem_cons_of_mem _ (List.mem_cons_of_mem _ (List.mem_cons_of_mem _ (List.mem_cons_of_mem _ (List.mem_cons_of_mem _ (List.mem_cons_of_mem _ (hx)))))))))))))))))
structure RegT (l : List Oper) (b d : Nat) : Prop where
  len : l.length = 23
  o0 : (l[0]?).map coreO = some (.move (.tmp 17), (some (b)), none)
  o1 : (l[1]?).map coreO = some (.binOp .sub 3 (.tmp (b)) (.const (.int .i64 ((3 : Nat) : Int))) 3, (some (b + 1)), none)
  o2 : (l[2]?).map coreO = some (.binOp .and 3 (.tmp (b + 1)) (.const (.int .i64 15)) 3, (some (b + 2)), none)
  o3 : (l[3]?).map coreO = some (.indexAddr 62 (.tmp 4) (.tmp (b + 2)), (some (b + 3)), none)
  o4 : (l[4]?).map coreO = some (.load 43 (.tmp (b + 3)), (some (b + 4)), none)
  o5 : (l[5]?).map coreO = some (.move (.tmp 17), (some (b + 5)), none)
  o6 : (l[6]?).map coreO = some (.binOp .sub 3 (.tmp (b + 5)) (.const (.int .i64 ((8 : Nat) : Int))) 3, (some (b + 6)), none)
  o7 : (l[7]?).map coreO = some (.binOp .and 3 (.tmp (b + 6)) (.const (.int .i64 15)) 3, (some (b + 7)), none)
  o8 : (l[8]?).map coreO = some (.indexAddr 62 (.tmp 4) (.tmp (b + 7)), (some (b + 8)), none)
  o9 : (l[9]?).map coreO = some (.load 43 (.tmp (b + 8)), (some (b + 9)), none)
  o10 : (l[10]?).map coreO = some (.binOp .xor 43 (.tmp (b + 4)) (.tmp (b + 9)) 43, (some (b + 10)), none)
  o11 : (l[11]?).map coreO = some (.move (.tmp 17), (some (b + 11)), none)
  o12 : (l[12]?).map coreO = some (.binOp .sub 3 (.tmp (b + 11)) (.const (.int .i64 ((14 : Nat) : Int))) 3, (some (b + 12)), none)
  o13 : (l[13]?).map coreO = some (.binOp .and 3 (.tmp (b + 12)) (.const (.int .i64 15)) 3, (some (b + 13)), none)
  o14 : (l[14]?).map coreO = some (.indexAddr 62 (.tmp 4) (.tmp (b + 13)), (some (b + 14)), none)
  o15 : (l[15]?).map coreO = some (.load 43 (.tmp (b + 14)), (some (b + 15)), none)
  o16 : (l[16]?).map coreO = some (.binOp .xor 43 (.tmp (b + 10)) (.tmp (b + 15)) 43, (some (b + 16)), none)
  o17 : (l[17]?).map coreO = some (.move (.tmp 17), (some (b + 17)), none)
  o18 : (l[18]?).map coreO = some (.binOp .and 3 (.tmp (b + 17)) (.const (.int .i64 15)) 3, (some (b + 18)), none)
  o19 : (l[19]?).map coreO = some (.indexAddr 62 (.tmp 4) (.tmp (b + 18)), (some (b + 19)), none)
  o20 : (l[20]?).map coreO = some (.load 43 (.tmp (b + 19)), (some (b + 20)), none)
  o21 : (l[21]?).map coreO = some (.binOp .xor 43 (.tmp (b + 16)) (.tmp (b + 20)) 43, (some (b + 21)), none)
  o22 : (l[22]?).map coreO = some (.assign (.tmp (b + 21)), (some (d)), none)
  ns : Region.noSelect l.toArray = true
  ok : planOk .any l.toArray (([(0, 0), (1, 0), (2, 0), (3, 0), (4, 0), (5, 0), (6, 0), (7, 0), (8, 0), (9, 0), (10, 0), (11, 0), (12, 0), (13, 0), (14, 0), (15, 0), (16, 0), (17, 0), (18, 0), (19, 0), (20, 0), (21, 0), (22, 0)].filter (·.2 == 0)).map (·.1)) [(0, 0), (1, 0), (2, 0), (3, 0), (4, 0), (5, 0), (6, 0), (7, 0), (8, 0), (9, 0), (10, 0), (11, 0), (12, 0), (13, 0), (14, 0), (15, 0), (16, 0), (17, 0), (18, 0), (19, 0), (20, 0), (21, 0), (22, 0)] (Array.replicate l.length false) = true
theorem RegT_ok {Q : Exit → Act → World → Prop} {id : Nat} {l : List Oper} {a : Act} {w : World} {gw i : Nat} {s : St} {R : List (Nat × Value)} {b d : Nat} (hO : RegT l b d) (h1 : 57 ≤ b) (h2 : b + 21 ≤ 396) (h3 : 18 ≤ d) (h4 : d < 57) (hi : 16 ≤ i) (hi2 : i < 80) (hW : Cells16 w gw s.W) (hR : ∀ x ∈ R, x.1 < 10) (hQ : ∀ c a d v w, Q (.panic c) (a.put d v) w → Q (.panic c) a w) (hk : Keeps 397 ((4, .pointer (some ⟨gw, 0, none⟩)) :: (12, .int .u32 (s.a)) :: (13, .int .u32 (s.b)) :: (14, .int .u32 (s.c)) :: (15, .int .u32 (s.d)) :: (16, .int .u32 (s.e)) :: (17, .int .i64 ((i : Nat) : Int)) :: R) a)
    (h : ∀ a' w', w'.heap = w.heap → Below w.heap.size w w' → Keeps 397 ((d, .int .u32 (mixW i s.W)) :: (4, .pointer (some ⟨gw, 0, none⟩)) :: (12, .int .u32 (s.a)) :: (13, .int .u32 (s.b)) :: (14, .int .u32 (s.c)) :: (15, .int .u32 (s.d)) :: (16, .int .u32 (s.e)) :: (17, .int .i64 ((i : Nat) : Int)) :: R) a' → Q .normal a' w') : (Code.region id l.toArray true).wp Try.prog Q a w := by
  refine region_plan2 (fun w' => Below w.heap.size w w') [(0, 0), (1, 0), (2, 0), (3, 0), (4, 0), (5, 0), (6, 0), (7, 0), (8, 0), (9, 0), (10, 0), (11, 0), (12, 0), (13, 0), (14, 0), (15, 0), (16, 0), (17, 0), (18, 0), (19, 0), (20, 0), (21, 0), (22, 0)] rfl hO.ns hO.ok (by rw [hO.len]; rfl) hQ (fun _ _ h => h) ?_
  intro OPS w1 hpW hb1
  have hLW : ∀ j, j < 16 → ∀ w', Below w.heap.size w w' → w'.cell? ⟨gw, j, none⟩ = some (.int .u32 (wAt s.W j)) := fun j hj w' hS => (hW.kept hS).at j hj
  refine plan_k hO.o0 hk (by omega) (by repeat' (first | exact far_nil _ | exact far_R hR (by omega) | refine far_cons (by omega) ?_)) (v := .int .i64 ((i : Nat) : Int)) (fun o ho w' hS => do_move ho (hk.at (List.mem_cons_of_mem _ (List.mem_cons_of_mem _ (List.mem_cons_of_mem _ (List.mem_cons_of_mem _ (List.mem_cons_of_mem _ (List.mem_cons_of_mem _ (List.mem_cons_self ..))))))))) ?_
  clear hk; intro a hk
  refine plan_k hO.o1 hk (by omega) (by repeat' (first | exact far_nil _ | exact far_R hR (by omega) | refine far_cons (by omega) ?_)) (v := .int .i64 ((i - 3 : Nat) : Int)) (fun o ho w' hS => do_isub ho (hk.at (List.mem_cons_self ..)) (by omega) (by omega)) ?_
  clear hk; intro a hk
  refine plan_k hO.o2 hk (by omega) (by repeat' (first | exact far_nil _ | exact far_R hR (by omega) | refine far_cons (by omega) ?_)) (v := .int .i64 (((i - 3) % 16 : Nat) : Int)) (fun o ho w' hS => do_i15 ho (hk.at (List.mem_cons_self ..))) ?_
  clear hk; intro a hk
  refine plan_k hO.o3 hk (by omega) (by repeat' (first | exact far_nil _ | exact far_R hR (by omega) | refine far_cons (by omega) ?_)) (v := .pointer (some ⟨gw, (i - 3) % 16, none⟩)) (fun o ho w' hS => do_wat ho (hk.at (List.mem_cons_of_mem _ (List.mem_cons_of_mem _ (List.mem_cons_of_mem _ (List.mem_cons_self ..))))) (hk.at (List.mem_cons_self ..)) (by omega)) ?_
  clear hk; intro a hk
  refine plan_k hO.o4 hk (by omega) (by repeat' (first | exact far_nil _ | exact far_R hR (by omega) | refine far_cons (by omega) ?_)) (v := .int .u32 (wAt s.W ((i - 3) % 16))) (fun o ho w' hS => do_load32 ho (hk.at (List.mem_cons_self ..)) (hLW _ (by omega) w' hS)) ?_
  clear hk; intro a hk
  refine plan_k hO.o5 hk (by omega) (by repeat' (first | exact far_nil _ | exact far_R hR (by omega) | refine far_cons (by omega) ?_)) (v := .int .i64 ((i : Nat) : Int)) (fun o ho w' hS => do_move ho (hk.at (List.mem_cons_of_mem _ (List.mem_cons_of_mem _ (List.mem_cons_of_mem _ (List.mem_cons_of_mem _ (List.mem_cons_of_mem _ (List.mem_cons_of_mem _ (List.mem_cons_of_mem _ (List.mem_cons_of_mem _ (List.mem_cons_of_mem _ (List.mem_cons_of_mem _ (List.mem_cons_of_mem _ (List.mem_cons_self ..)))))))))))))) ?_
  clear hk; intro a hk
  refine plan_k hO.o6 hk (by omega) (by repeat' (first | exact far_nil _ | exact far_R hR (by omega) | refine far_cons (by omega) ?_)) (v := .int .i64 ((i - 8 : Nat) : Int)) (fun o ho w' hS => do_isub ho (hk.at (List.mem_cons_self ..)) (by omega) (by omega)) ?_
  clear hk; intro a hk
  refine plan_k hO.o7 hk (by omega) (by repeat' (first | exact far_nil _ | exact far_R hR (by omega) | refine far_cons (by omega) ?_)) (v := .int .i64 (((i - 8) % 16 : Nat) : Int)) (fun o ho w' hS => do_i15 ho (hk.at (List.mem_cons_self ..))) ?_
  clear hk; intro a hk
  refine plan_k hO.o8 hk (by omega) (by repeat' (first | exact far_nil _ | exact far_R hR (by omega) | refine far_cons (by omega) ?_)) (v := .pointer (some ⟨gw, (i - 8) % 16, none⟩)) (fun o ho w' hS => do_wat ho (hk.at (List.mem_cons_of_mem _ (List.mem_cons_of_mem _ (List.mem_cons_of_mem _ (List.mem_cons_of_mem _ (List.mem_cons_of_mem _ (List.mem_cons_of_mem _ (List.mem_cons_of_mem _ (List.mem_cons_of_mem _ (List.mem_cons_self ..)))))))))) (hk.at (List.mem_cons_self ..)) (by omega)) ?_
  clear hk; intro a hk
  refine plan_k hO.o9 hk (by omega) (by repeat' (first | exact far_nil _ | exact far_R hR (by omega) | refine far_cons (by omega) ?_)) (v := .int .u32 (wAt s.W ((i - 8) % 16))) (fun o ho w' hS => do_load32 ho (hk.at (List.mem_cons_self ..)) (hLW _ (by omega) w' hS)) ?_
  clear hk; intro a hk
  refine plan_k hO.o10 hk (by omega) (by repeat' (first | exact far_nil _ | exact far_R hR (by omega) | refine far_cons (by omega) ?_)) (v := .int .u32 (uXor (wAt s.W ((i - 3) % 16)) (wAt s.W ((i - 8) % 16)))) (fun o ho w' hS => do_xor ho (hk.at (List.mem_cons_of_mem _ (List.mem_cons_of_mem _ (List.mem_cons_of_mem _ (List.mem_cons_of_mem _ (List.mem_cons_of_mem _ (List.mem_cons_self ..))))))) (hk.at (List.mem_cons_self ..))) ?_
  clear hk; intro a hk
  refine plan_k hO.o11 hk (by omega) (by repeat' (first | exact far_nil _ | exact far_R hR (by omega) | refine far_cons (by omega) ?_)) (v := .int .i64 ((i : Nat) : Int)) (fun o ho w' hS => do_move ho (hk.at (List.mem_cons_of_mem _ (List.mem_cons_of_mem _ (List.mem_cons_of_mem _ (List.mem_cons_of_mem _ (List.mem_cons_of_mem _ (List.mem_cons_of_mem _ (List.mem_cons_of_mem _ (List.mem_cons_of_mem _ (List.mem_cons_of_mem _ (List.mem_cons_of_mem _ (List.mem_cons_of_mem _ (List.mem_cons_of_mem _ (List.mem_cons_of_mem _ (List.mem_cons_of_mem _ (List.mem_cons_of_mem _ (List.mem_cons_of_mem _ (List.mem_cons_of_mem _ (List.mem_cons_self ..)))))))))))))))))))) ?_
  clear hk; intro a hk
  refine plan_k hO.o12 hk (by omega) (by repeat' (first | exact far_nil _ | exact far_R hR (by omega) | refine far_cons (by omega) ?_)) (v := .int .i64 ((i - 14 : Nat) : Int)) (fun o ho w' hS => do_isub ho (hk.at (List.mem_cons_self ..)) (by omega) (by omega)) ?_
  clear hk; intro a hk
  refine plan_k hO.o13 hk (by omega) (by repeat' (first | exact far_nil _ | exact far_R hR (by omega) | refine far_cons (by omega) ?_)) (v := .int .i64 (((i - 14) % 16 : Nat) : Int)) (fun o ho w' hS => do_i15 ho (hk.at (List.mem_cons_self ..))) ?_
  clear hk; intro a hk
  refine plan_k hO.o14 hk (by omega) (by repeat' (first | exact far_nil _ | exact far_R hR (by omega) | refine far_cons (by omega) ?_)) (v := .pointer (some ⟨gw, (i - 14) % 16, none⟩)) (fun o ho w' hS => do_wat ho (hk.at (List.mem_cons_of_mem _ (List.mem_cons_of_mem _ (List.mem_cons_of_mem _ (List.mem_cons_of_mem _ (List.mem_cons_of_mem _ (List.mem_cons_of_mem _ (List.mem_cons_of_mem _ (List.mem_cons_of_mem _ (List.mem_cons_of_mem _ (List.mem_cons_of_mem _ (List.mem_cons_of_mem _ (List.mem_cons_of_mem _ (List.mem_cons_of_mem _ (List.mem_cons_of_mem _ (List.mem_cons_self ..)))))))))))))))) (hk.at (List.mem_cons_self ..)) (by omega)) ?_
  clear hk; intro a hk
  refine plan_k hO.o15 hk (by omega) (by repeat' (first | exact far_nil _ | exact far_R hR (by omega) | refine far_cons (by omega) ?_)) (v := .int .u32 (wAt s.W ((i - 14) % 16))) (fun o ho w' hS => do_load32 ho (hk.at (List.mem_cons_self ..)) (hLW _ (by omega) w' hS)) ?_
  clear hk; intro a hk
  refine plan_k hO.o16 hk (by omega) (by repeat' (first | exact far_nil _ | exact far_R hR (by omega) | refine far_cons (by omega) ?_)) (v := .int .u32 (uXor (uXor (wAt s.W ((i - 3) % 16)) (wAt s.W ((i - 8) % 16))) (wAt s.W ((i - 14) % 16)))) (fun o ho w' hS => do_xor ho (hk.at (List.mem_cons_of_mem _ (List.mem_cons_of_mem _ (List.mem_cons_of_mem _ (List.mem_cons_of_mem _ (List.mem_cons_of_mem _ (List.mem_cons_self ..))))))) (hk.at (List.mem_cons_self ..))) ?_
  clear hk; intro a hk
  refine plan_k hO.o17 hk (by omega) (by repeat' (first | exact far_nil _ | exact far_R hR (by omega) | refine far_cons (by omega) ?_)) (v := .int .i64 ((i : Nat) : Int)) (fun o ho w' hS => do_move ho (hk.at (List.mem_cons_of_mem _ (List.mem_cons_of_mem _ (List.mem_cons_of_mem _ (List.mem_cons_of_mem _ (List.mem_cons_of_mem _ (List.mem_cons_of_mem _ (List.mem_cons_of_mem _ (List.mem_cons_of_mem _ (List.mem_cons_of_mem _ (List.mem_cons_of_mem _ (List.mem_cons_of_mem _ (List.mem_cons_of_mem _ (List.mem_cons_of_mem _ (List.mem_cons_of_mem _ (List.mem_cons_of_mem _ (List.mem_cons_of_mem _ (List.mem_cons_of_mem _ (List.mem_cons_of_mem _ (List.mem_cons_of_mem _ (List.mem_cons_of_mem _ (List.mem_cons_of_mem _ (List.mem_cons_of_mem _ (List.mem_cons_of_mem _ (List.mem_cons_self ..)))))))))))))))))))))))))) ?_
  clear hk; intro a hk
  refine plan_k hO.o18 hk (by omega) (by repeat' (first | exact far_nil _ | exact far_R hR (by omega) | refine far_cons (by omega) ?_)) (v := .int .i64 (((i) % 16 : Nat) : Int)) (fun o ho w' hS => do_i15 ho (hk.at (List.mem_cons_self ..))) ?_
  clear hk; intro a hk
  refine plan_k hO.o19 hk (by omega) (by repeat' (first | exact far_nil _ | exact far_R hR (by omega) | refine far_cons (by omega) ?_)) (v := .pointer (some ⟨gw, (i) % 16, none⟩)) (fun o ho w' hS => do_wat ho (hk.at (List.mem_cons_of_mem _ (List.mem_cons_of_mem _ (List.mem_cons_of_mem _ (List.mem_cons_of_mem _ (List.mem_cons_of_mem _ (List.mem_cons_of_mem _ (List.mem_cons_of_mem _ (List.mem_cons_of_mem _ (List.mem_cons_of_mem _ (List.mem_cons_of_mem _ (List.mem_cons_of_mem _ (List.mem_cons_of_mem _ (List.mem_cons_of_mem _ (List.mem_cons_of_mem _ (List.mem_cons_of_mem _ (List.mem_cons_of_mem _ (List.mem_cons_of_mem _ (List.mem_cons_of_mem _ (List.mem_cons_of_mem _ (List.mem_cons_self ..))))))))))))))))))))) (hk.at (List.mem_cons_self ..)) (by omega)) ?_
  clear hk; intro a hk
  refine plan_k hO.o20 hk (by omega) (by repeat' (first | exact far_nil _ | exact far_R hR (by omega) | refine far_cons (by omega) ?_)) (v := .int .u32 (wAt s.W ((i) % 16))) (fun o ho w' hS => do_load32 ho (hk.at (List.mem_cons_self ..)) (hLW _ (by omega) w' hS)) ?_
  clear hk; intro a hk
  refine plan_k hO.o21 hk (by omega) (by repeat' (first | exact far_nil _ | exact far_R hR (by omega) | refine far_cons (by omega) ?_)) (v := .int .u32 (uXor (uXor (uXor (wAt s.W ((i - 3) % 16)) (wAt s.W ((i - 8) % 16))) (wAt s.W ((i - 14) % 16))) (wAt s.W ((i) % 16)))) (fun o ho w' hS => do_xor ho (hk.at (List.mem_cons_of_mem _ (List.mem_cons_of_mem _ (List.mem_cons_of_mem _ (List.mem_cons_of_mem _ (List.mem_cons_self ..)))))) (hk.at (List.mem_cons_self ..))) ?_
  clear hk; intro a hk
  refine plan_k hO.o22 hk (by omega) (by repeat' (first | exact far_nil _ | exact far_R hR (by omega) | refine far_cons (by omega) ?_)) (v := .int .u32 (uXor (uXor (uXor (wAt s.W ((i - 3) % 16)) (wAt s.W ((i - 8) % 16))) (wAt s.W ((i - 14) % 16))) (wAt s.W ((i) % 16)))) (fun o ho w' hS => do_assign ho (hk.at (List.mem_cons_self ..))) ?_
  clear hk; intro a hk
  refine plan_k0 ?_
  refine h _ _ hpW hb1 ?_
  refine ⟨hk.1, hk.2.1, fun x hx => hk.2.2 x ?_⟩
  rcases List.mem_cons.1 hx with rfl | hx
  · exact List.mem_cons_self ..
  rcases List.mem_cons.1 hx with rfl | hx
  · exact List.mem_cons_of_mem _ (List.mem_cons_of_mem _ (List.mem_cons_of_mem _ (List.mem_cons_of_mem _ (List.mem_cons_of_mem _ (List.mem_cons_of_mem _ (List.mem_cons_of_mem _ (List.mem_cons_of_mem _ (List.mem_cons_of_mem _ (List.mem_cons_of_mem _ (List.mem_cons_of_mem _ (List.mem_cons_of_mem _ (List.mem_cons_of_mem _ (List.mem_cons_of_mem _ (List.mem_cons_of_mem _ (List.mem_cons_of_mem _ (List.mem_cons_of_mem _ (List.mem_cons_of_mem _ (List.mem_cons_of_mem _ (List.mem_cons_of_mem _ (List.mem_cons_of_mem _ (List.mem_cons_of_mem _ (List.mem_cons_of_mem _ (List.mem_cons_self ..)))))))))))))))))))))))
  rcases List.mem_cons.1 hx with rfl | hx
  · exact List.mem_cons_of_mem _ (List.mem_cons_of_mem _ (List.mem_cons_of_mem _ (List.mem_cons_of_mem _ (List.mem_cons_of_mem _ (List.mem_cons_of_mem _ (List.mem_cons_of_mem _ (List.mem_cons_of_mem _ (List.mem_cons_of_mem _ (List.mem_cons_of_mem _ (List.mem_cons_of_mem _ (List.mem_cons_of_mem _ (List.mem_cons_of_mem _ (List.mem_cons_of_mem _ (List.mem_cons_of_mem _ (List.mem_cons_of_mem _ (List.mem_cons_of_mem _ (List.mem_cons_of_mem _ (List.mem_cons_of_mem _ (List.mem_cons_of_mem _ (List.mem_cons_of_mem _ (List.mem_cons_of_mem _ (List.mem_cons_of_mem _ (List.mem_cons_of_mem _ (List.mem_cons_self ..))))))))))))))))))))))))
  rcases List.mem_cons.1 hx with rfl | hx
  · exact List.mem_cons_of_mem _ (List.mem_cons_of_mem _ (List.mem_cons_of_mem _ (List.mem_cons_of_mem _ (List.mem_cons_of_mem _ (List.mem_cons_of_mem _ (List.mem_cons_of_mem _ (List.mem_cons_of_mem _ (List.mem_cons_of_mem _ (List.mem_cons_of_mem _ (List.mem_cons_of_mem _ (List.mem_cons_of_mem _ (List.mem_cons_of_mem _ (List.mem_cons_of_mem _ (List.mem_cons_of_mem _ (List.mem_cons_of_mem _ (List.mem_cons_of_mem _ (List.mem_cons_of_mem _ (List.mem_cons_of_mem _ (List.mem_cons_of_mem _ (List.mem_cons_of_mem _ (List.mem_cons_of_mem _ (List.mem_cons_of_mem _ (List.mem_cons_of_mem _ (List.mem_cons_of_mem _ (List.mem_cons_self ..)))))))))))))))))))))))))
  rcases List.mem_cons.1 hx with rfl | hx
  · exact List.mem_cons_of_mem _ (List.mem_cons_of_mem _ (List.mem_cons_of_mem _ (List.mem_cons_of_mem _ (List.mem_cons_of_mem _ (List.mem_cons_of_mem _ (List.mem_cons_of_mem _ (List.mem_cons_of_mem _ (List.mem_cons_of_mem _ (List.mem_cons_of_mem _ (List.mem_cons_of_mem _ (List.mem_cons_of_mem _ (List.mem_cons_of_mem _ (List.mem_cons_of_mem _ (List.mem_cons_of_mem _ (List.mem_cons_of_mem _ (List.mem_cons_of_mem _ (List.mem_cons_of_mem _ (List.mem_cons_of_mem _ (List.mem_cons_of_mem _ (List.mem_cons_of_mem _ (List.mem_cons_of_mem _ (List.mem_cons_of_mem _ (List.mem_cons_of_mem _ (List.mem_cons_of_mem _ (List.mem_cons_of_mem _ (List.mem_cons_self ..))))))))))))))))))))))))))
  rcases List.mem_cons.1 hx with rfl | hx
  · exact List.mem_cons_of_mem _ (List.mem_cons_of_mem _ (List.mem_cons_of_mem _ (List.mem_cons_of_mem _ (List.mem_cons_of_mem _ (List.mem_cons_of_mem _ (List.mem_cons_of_mem _ (List.mem_cons_of_mem _ (List.mem_cons_of_mem _ (List.mem_cons_of_mem _ (List.mem_cons_of_mem _ (List.mem_cons_of_mem _ (List.mem_cons_of_mem _ (List.mem_cons_of_mem _ (List.mem_cons_of_mem _ (List.mem_cons_of_mem _ (List.mem_cons_of_mem _ (List.mem_cons_of_mem _ (List.mem_cons_of_mem _ (List.mem_cons_of_mem _ (List.mem_cons_of_mem _ (List.mem_cons_of_mem _ (List.mem_cons_of_mem _ (List.mem_cons_of_mem _ (List.mem_cons_of_mem _ (List.mem_cons_of_mem _ (List.mem_cons_of_mem _ (List.mem_cons_self ..)))))))))))))))))))))))))))
  rcases List.mem_cons.1 hx with rfl | hx
  · exact List.mem_cons_of_mem _ (List.mem_cons_of_mem _ (List.mem_cons_of_mem _ (List.mem_cons_of_mem _ (List.mem_cons_of_mem _ (List.mem_cons_of_mem _ (List.mem_cons_of_mem _ (List.mem_cons_of_mem _ (List.mem_cons_of_mem _ (List.mem_cons_of_mem _ (List.mem_cons_of_mem _ (List.mem_cons_of_mem _ (List.mem_cons_of_mem _ (List.mem_cons_of_mem _ (List.mem_cons_of_mem _ (List.mem_cons_of_mem _ (List.mem_cons_of_mem _ (List.mem_cons_of_mem _ (List.mem_cons_of_mem _ (List.mem_cons_of_mem _ (List.mem_cons_of_mem _ (List.mem_cons_of_mem _ (List.mem_cons_of_mem _ (List.mem_cons_of_mem _ (List.mem_cons_of_mem _ (List.mem_cons_of_mem _ (List.mem_cons_of_mem _ (List.mem_cons_of_mem _ (List.mem_cons_self ..))))))))))))))))))))))))))))
  rcases List.mem_cons.1 hx with rfl | hx
  · exact List.mem_cons_of_mem _ (List.mem_cons_of_mem _ (List.mem_cons_of_mem _ (List.mem_cons_of_mem _ (List.mem_cons_of_mem _ (List.mem_cons_of_mem _ (List.mem_cons_of_mem _ (List.mem_cons_of_mem _ (List.mem_cons_of_mem _ (List.mem_cons_of_mem _ (List.mem_cons_of_mem _ (List.mem_cons_of_mem _ (List.mem_cons_of_mem _ (List.mem_cons_of_mem _ (List.mem_cons_of_mem _ (List.mem_cons_of_mem _ (List.mem_cons_of_mem _ (List.mem_cons_of_mem _ (List.mem_cons_of_mem _ (List.mem_cons_of_mem _ (List.mem_cons_of_mem _ (List.mem_cons_of_mem _ (List.mem_cons_of_mem _ (List.mem_cons_of_mem _ (List.mem_cons_of_mem _ (List.mem_cons_of_mem _ (List.mem_cons_of_mem _ (List.mem_cons_of_mem _ (List.mem_cons_of_mem _ (List.mem_cons_self ..)))))))))))))))))))))))))))))
  exact List.mem_cons_of_mem _ (List.mem_cons_of_mem _ (List.mem_cons_of_mem _ (List.mem_cons_of_mem _ (List.mem_cons_of_mem _ (List.mem_cons_of_mem _ (List.mem_cons_of_mem _ (List.mem_cons_of_mem _ (List.mem_cons_of_mem _ (List.mem_cons_of_mem _ (List.mem_cons_of_mem _ (List.mem_cons_of_mem _ (List.mem_cons_of_mem _ (List.mem_cons_of_mem _ (List.mem_cons_of_mem _ (List.mem_cons_of_mem _ (List.mem_cons_of_mem _ (List.mem_cons_of_mem _ (List.mem_cons_of_mem _ (List.mem_cons_of_mem _ (List.mem_cons_of_mem _ (List.mem_cons_of_mem _ (List.mem_cons_of_mem _ (List.mem_cons_of_mem _ (List.mem_cons_of_mem _ (List.mem_cons_of_mem _ (List.mem_cons_of_mem _ (List.mem_cons_of_mem _ (List.mem_cons_of_mem _ (List.mem_cons_of_mem _ (hx))))))))))))))))))))))))))))))
structure RegS (l : List Oper) (b d : Nat) : Prop where
  len : l.length = 6
  o0 : (l[0]?).map coreO = some (.move (.tmp 17), (some (b)), none)
  o1 : (l[1]?).map coreO = some (.binOp .and 3 (.tmp (b)) (.const (.int .i64 15)) 3, (some (b + 1)), none)
  o2 : (l[2]?).map coreO = some (.move (.tmp (d)), (some (b + 2)), none)
  o3 : (l[3]?).map coreO = some (.call { callee := .value (.func 26), args := #[(.tmp (b + 2)), .const (.int .i64 1)], argTypes := #[43, 3] }, (some (b + 3)), none)
  o4 : (l[4]?).map coreO = some (.indexAddr 62 (.tmp 4) (.tmp (b + 1)), (some (b + 4)), none)
  o5 : (l[5]?).map coreO = some (.store 43 (.tmp (b + 4)) (.tmp (b + 3)), none, none)
theorem RegS_ok {Q : Exit → Act → World → Prop} {id : Nat} {l : List Oper} {a : Act} {w : World} {gw i : Nat} {s : St} {R : List (Nat × Value)} {x : Int} {b d : Nat} (hO : RegS l b d) (h1 : 57 ≤ b) (h2 : b + 4 ≤ 396) (h3 : 18 ≤ d) (h4 : d < 57) (hi2 : i < 80) (hW : Cells16 w gw s.W) (hR : ∀ x ∈ R, x.1 < 10) (hk : Keeps 397 ((d, .int .u32 (x)) :: (4, .pointer (some ⟨gw, 0, none⟩)) :: (12, .int .u32 (s.a)) :: (13, .int .u32 (s.b)) :: (14, .int .u32 (s.c)) :: (15, .int .u32 (s.d)) :: (16, .int .u32 (s.e)) :: (17, .int .i64 ((i : Nat) : Int)) :: R) a)
    (h : ∀ a' w', Keeps 397 ((4, .pointer (some ⟨gw, 0, none⟩)) :: (12, .int .u32 (s.a)) :: (13, .int .u32 (s.b)) :: (14, .int .u32 (s.c)) :: (15, .int .u32 (s.d)) :: (16, .int .u32 (s.e)) :: (17, .int .i64 ((i : Nat) : Int)) :: R) a' → Cells16 w' gw (s.W.set (i % 16) (rot1 x)) → w.grownBy w' (some gw) → Q .normal a' w') : (Code.region id l.toArray false).wp Try.prog Q a w := by
  refine lit_start ?_
  refine drop_k hO.o0 hk (by omega) (by repeat' (first | exact far_nil _ | exact far_R hR (by omega) | refine far_cons (by omega) ?_)) (v := .int .i64 ((i : Nat) : Int)) (fun o ho => do_move ho (hk.at (List.mem_cons_of_mem _ (List.mem_cons_of_mem _ (List.mem_cons_of_mem _ (List.mem_cons_of_mem _ (List.mem_cons_of_mem _ (List.mem_cons_of_mem _ (List.mem_cons_of_mem _ (List.mem_cons_self ..)))))))))) ?_
  clear hk; intro a hk
  refine drop_k hO.o1 hk (by omega) (by repeat' (first | exact far_nil _ | exact far_R hR (by omega) | refine far_cons (by omega) ?_)) (v := .int .i64 (((i) % 16 : Nat) : Int)) (fun o ho => do_i15 ho (hk.at (List.mem_cons_self ..))) ?_
  clear hk; intro a hk
  refine drop_k hO.o2 hk (by omega) (by repeat' (first | exact far_nil _ | exact far_R hR (by omega) | refine far_cons (by omega) ?_)) (v := .int .u32 (x)) (fun o ho => do_move ho (hk.at (List.mem_cons_of_mem _ (List.mem_cons_of_mem _ (List.mem_cons_self ..))))) ?_
  clear hk; intro a hk
  refine drop_call hO.o3 hk (by omega) (by repeat' (first | exact far_nil _ | exact far_R hR (by omega) | refine far_cons (by omega) ?_)) (v := .int .u32 (rot1 (x))) (fun o ho => do_call2 ho (hk.at (List.mem_cons_self ..)) rfl (rot_enter _ _)) (rot1_ok _ _) ?_
  clear hk; intro a hk
  refine drop_k hO.o4 hk (by omega) (by repeat' (first | exact far_nil _ | exact far_R hR (by omega) | refine far_cons (by omega) ?_)) (v := .pointer (some ⟨gw, (i) % 16, none⟩)) (fun o ho => do_wat ho (hk.at (List.mem_cons_of_mem _ (List.mem_cons_of_mem _ (List.mem_cons_of_mem _ (List.mem_cons_of_mem _ (List.mem_cons_of_mem _ (List.mem_cons_self ..))))))) (hk.at (List.mem_cons_of_mem _ (List.mem_cons_of_mem _ (List.mem_cons_self ..)))) (by omega)) ?_
  clear hk; intro a hk
  obtain ⟨hl, ty, hB⟩ := hW
  refine drop_step hO.o5 fun o ho hd hgd => ?_
  refine wp_store_cell hgd ho (by kernel_rfl) (hk.at (List.mem_cons_self ..)) (hk.at (List.mem_cons_of_mem _ (List.mem_cons_self ..))) rfl hB (by rw [List.length_map, hl]; omega) fun w2 b2 g2 s2 => ?_
  rw [hd]
  refine drop_end hO.len ?_
  refine h _ _ ?_ ⟨by rw [List.length_set, hl], ty, by rw [List.map_set]; exact b2⟩ g2
  refine ⟨hk.1, hk.2.1, fun x hx => hk.2.2 x ?_⟩
  rcases List.mem_cons.1 hx with rfl | hx
  · exact List.mem_cons_of_mem _ (List.mem_cons_of_mem _ (List.mem_cons_of_mem _ (List.mem_cons_of_mem _ (List.mem_cons_of_mem _ (List.mem_cons_of_mem _ (List.mem_cons_self ..))))))
  rcases List.mem_cons.1 hx with rfl | hx
  · exact List.mem_cons_of_mem _ (List.mem_cons_of_mem _ (List.mem_cons_of_mem _ (List.mem_cons_of_mem _ (List.mem_cons_of_mem _ (List.mem_cons_of_mem _ (List.mem_cons_of_mem _ (List.mem_cons_self ..)))))))
  rcases List.mem_cons.1 hx with rfl | hx
  · exact List.mem_cons_of_mem _ (List.mem_cons_of_mem _ (List.mem_cons_of_mem _ (List.mem_cons_of_mem _ (List.mem_cons_of_mem _ (List.mem_cons_of_mem _ (List.mem_cons_of_mem _ (List.mem_cons_of_mem _ (List.mem_cons_self ..))))))))
  rcases List.mem_cons.1 hx with rfl | hx
  · exact List.mem_cons_of_mem _ (List.mem_cons_of_mem _ (List.mem_cons_of_mem _ (List.mem_cons_of_mem _ (List.mem_cons_of_mem _ (List.mem_cons_of_mem _ (List.mem_cons_of_mem _ (List.mem_cons_of_mem _ (List.mem_cons_of_mem _ (List.mem_cons_self ..)))))))))
  rcases List.mem_cons.1 hx with rfl | hx
  · exact List.mem_cons_of_mem _ (List.mem_cons_of_mem _ (List.mem_cons_of_mem _ (List.mem_cons_of_mem _ (List.mem_cons_of_mem _ (List.mem_cons_of_mem _ (List.mem_cons_of_mem _ (List.mem_cons_of_mem _ (List.mem_cons_of_mem _ (List.mem_cons_of_mem _ (List.mem_cons_self ..))))))))))
  rcases List.mem_cons.1 hx with rfl | hx
  · exact List.mem_cons_of_mem _ (List.mem_cons_of_mem _ (List.mem_cons_of_mem _ (List.mem_cons_of_mem _ (List.mem_cons_of_mem _ (List.mem_cons_of_mem _ (List.mem_cons_of_mem _ (List.mem_cons_of_mem _ (List.mem_cons_of_mem _ (List.mem_cons_of_mem _ (List.mem_cons_of_mem _ (List.mem_cons_self ..)))))))))))
  rcases List.mem_cons.1 hx with rfl | hx
  · exact List.mem_cons_of_mem _ (List.mem_cons_of_mem _ (List.mem_cons_of_mem _ (List.mem_cons_of_mem _ (List.mem_cons_of_mem _ (List.mem_cons_of_mem _ (List.mem_cons_of_mem _ (List.mem_cons_of_mem _ (List.mem_cons_of_mem _ (List.mem_cons_of_mem _ (List.mem_cons_of_mem _ (List.mem_cons_of_mem _ (List.mem_cons_self ..))))))))))))
  exact List.mem_cons_of_mem _ (List.mem_cons_of_mem _ (List.mem_cons_of_mem _ (List.mem_cons_of_mem _ (List.mem_cons_of_mem _ (List.mem_cons_of_mem _ (List.mem_cons_of_mem _ (List.mem_cons_of_mem _ (List.mem_cons_of_mem _ (List.mem_cons_of_mem _ (List.mem_cons_of_mem _ (List.mem_cons_of_mem _ (List.mem_cons_of_mem _ (hx)))))))))))))
structure RegU (l : List Oper) (b e d : Nat) (K : Int) : Prop where
  len : l.length = 13
  o0 : (l[0]?).map coreO = some (.move (.tmp 12), (some (b)), none)
  o1 : (l[1]?).map coreO = some (.call { callee := .value (.func 26), args := #[(.tmp (b)), .const (.int .i64 5)], argTypes := #[43, 3] }, (some (b + 1)), none)
  o2 : (l[2]?).map coreO = some (.move (.tmp (e)), (some (b + 2)), none)
  o3 : (l[3]?).map coreO = some (.binOp .add 43 (.tmp (b + 1)) (.tmp (b + 2)) 43, (some (b + 3)), none)
  o4 : (l[4]?).map coreO = some (.move (.tmp 16), (some (b + 4)), none)
  o5 : (l[5]?).map coreO = some (.binOp .add 43 (.tmp (b + 3)) (.tmp (b + 4)) 43, (some (b + 5)), none)
  o6 : (l[6]?).map coreO = some (.move (.tmp 17), (some (b + 6)), none)
  o7 : (l[7]?).map coreO = some (.binOp .and 3 (.tmp (b + 6)) (.const (.int .i64 15)) 3, (some (b + 7)), none)
  o8 : (l[8]?).map coreO = some (.indexAddr 62 (.tmp 4) (.tmp (b + 7)), (some (b + 8)), none)
  o9 : (l[9]?).map coreO = some (.load 43 (.tmp (b + 8)), (some (b + 9)), none)
  o10 : (l[10]?).map coreO = some (.binOp .add 43 (.tmp (b + 5)) (.tmp (b + 9)) 43, (some (b + 10)), none)
  o11 : (l[11]?).map coreO = some (.binOp .add 43 (.tmp (b + 10)) (.const (.int .u32 K)) 43, (some (b + 11)), none)
  o12 : (l[12]?).map coreO = some (.assign (.tmp (b + 11)), (some (d)), none)
  ns : Region.noSelect l.toArray = true
  ok : planOk .any l.toArray (([(0, 0), (1, 0), (2, 0), (3, 0), (4, 0), (5, 0), (6, 0), (7, 0), (8, 0), (9, 0), (10, 0), (11, 0), (12, 0)].filter (·.2 == 0)).map (·.1)) [(0, 0), (1, 0), (2, 0), (3, 0), (4, 0), (5, 0), (6, 0), (7, 0), (8, 0), (9, 0), (10, 0), (11, 0), (12, 0)] (Array.replicate l.length false) = true
theorem RegU_ok {Q : Exit → Act → World → Prop} {id : Nat} {l : List Oper} {a : Act} {w : World} {gw i : Nat} {s : St} {R : List (Nat × Value)} {x K : Int} {b e d : Nat} (hO : RegU l b e d K) (h1 : 57 ≤ b) (h2 : b + 11 ≤ 396) (h3 : 18 ≤ d) (h4 : d < 57) (h5 : 18 ≤ e) (h6 : e < 57) (h7 : d ≠ e) (hi2 : i < 80) (hW : Cells16 w gw s.W) (hR : ∀ x ∈ R, x.1 < 10) (hQ : ∀ c a d v w, Q (.panic c) (a.put d v) w → Q (.panic c) a w) (hk : Keeps 397 ((e, .int .u32 (x)) :: (4, .pointer (some ⟨gw, 0, none⟩)) :: (12, .int .u32 (s.a)) :: (13, .int .u32 (s.b)) :: (14, .int .u32 (s.c)) :: (15, .int .u32 (s.d)) :: (16, .int .u32 (s.e)) :: (17, .int .i64 ((i : Nat) : Int)) :: R) a)
    (h : ∀ a' w', w'.heap = w.heap → Below w.heap.size w w' → Keeps 397 ((d, .int .u32 (uAdd (uAdd (uAdd (uAdd (rot5 s.a) x) s.e) (wAt s.W (i % 16))) K)) :: (4, .pointer (some ⟨gw, 0, none⟩)) :: (12, .int .u32 (s.a)) :: (13, .int .u32 (s.b)) :: (14, .int .u32 (s.c)) :: (15, .int .u32 (s.d)) :: (16, .int .u32 (s.e)) :: (17, .int .i64 ((i : Nat) : Int)) :: R) a' → Q .normal a' w') : (Code.region id l.toArray true).wp Try.prog Q a w := by
  refine region_plan2 (fun w' => Below w.heap.size w w') [(0, 0), (1, 0), (2, 0), (3, 0), (4, 0), (5, 0), (6, 0), (7, 0), (8, 0), (9, 0), (10, 0), (11, 0), (12, 0)] rfl hO.ns hO.ok (by rw [hO.len]; rfl) hQ (fun _ _ h => h) ?_
  intro OPS w1 hpW hb1
  have hLW : ∀ j, j < 16 → ∀ w', Below w.heap.size w w' → w'.cell? ⟨gw, j, none⟩ = some (.int .u32 (wAt s.W j)) := fun j hj w' hS => (hW.kept hS).at j hj
  refine plan_k hO.o0 hk (by omega) (by repeat' (first | exact far_nil _ | exact far_R hR (by omega) | refine far_cons (by omega) ?_)) (v := .int .u32 (s.a)) (fun o ho w' hS => do_move ho (hk.at (List.mem_cons_of_mem _ (List.mem_cons_of_mem _ (List.mem_cons_self ..))))) ?_
  clear hk; intro a hk
  refine plan_kc hO.o1 hk (by omega) (by repeat' (first | exact far_nil _ | exact far_R hR (by omega) | refine far_cons (by omega) ?_)) (v := .int .u32 (rot5 (s.a))) (fun o ho w' hS => do_call2 ho (hk.at (List.mem_cons_self ..)) rfl (rot_enter _ _)) (fun w' hS => rot5_ok _ _) ?_
  clear hk; intro a hk
  refine plan_k hO.o2 hk (by omega) (by repeat' (first | exact far_nil _ | exact far_R hR (by omega) | refine far_cons (by omega) ?_)) (v := .int .u32 (x)) (fun o ho w' hS => do_move ho (hk.at (List.mem_cons_of_mem _ (List.mem_cons_of_mem _ (List.mem_cons_self ..))))) ?_
  clear hk; intro a hk
  refine plan_k hO.o3 hk (by omega) (by repeat' (first | exact far_nil _ | exact far_R hR (by omega) | refine far_cons (by omega) ?_)) (v := .int .u32 (uAdd (rot5 (s.a)) (x))) (fun o ho w' hS => do_add ho (hk.at (List.mem_cons_of_mem _ (List.mem_cons_self ..))) (hk.at (List.mem_cons_self ..))) ?_
  clear hk; intro a hk
  refine plan_k hO.o4 hk (by omega) (by repeat' (first | exact far_nil _ | exact far_R hR (by omega) | refine far_cons (by omega) ?_)) (v := .int .u32 (s.e)) (fun o ho w' hS => do_move ho (hk.at (List.mem_cons_of_mem _ (List.mem_cons_of_mem _ (List.mem_cons_of_mem _ (List.mem_cons_of_mem _ (List.mem_cons_of_mem _ (List.mem_cons_of_mem _ (List.mem_cons_of_mem _ (List.mem_cons_of_mem _ (List.mem_cons_of_mem _ (List.mem_cons_of_mem _ (List.mem_cons_self ..))))))))))))) ?_
  clear hk; intro a hk
  refine plan_k hO.o5 hk (by omega) (by repeat' (first | exact far_nil _ | exact far_R hR (by omega) | refine far_cons (by omega) ?_)) (v := .int .u32 (uAdd (uAdd (rot5 (s.a)) (x)) (s.e))) (fun o ho w' hS => do_add ho (hk.at (List.mem_cons_of_mem _ (List.mem_cons_self ..))) (hk.at (List.mem_cons_self ..))) ?_
  clear hk; intro a hk
  refine plan_k hO.o6 hk (by omega) (by repeat' (first | exact far_nil _ | exact far_R hR (by omega) | refine far_cons (by omega) ?_)) (v := .int .i64 ((i : Nat) : Int)) (fun o ho w' hS => do_move ho (hk.at (List.mem_cons_of_mem _ (List.mem_cons_of_mem _ (List.mem_cons_of_mem _ (List.mem_cons_of_mem _ (List.mem_cons_of_mem _ (List.mem_cons_of_mem _ (List.mem_cons_of_mem _ (List.mem_cons_of_mem _ (List.mem_cons_of_mem _ (List.mem_cons_of_mem _ (List.mem_cons_of_mem _ (List.mem_cons_of_mem _ (List.mem_cons_of_mem _ (List.mem_cons_self ..)))))))))))))))) ?_
  clear hk; intro a hk
  refine plan_k hO.o7 hk (by omega) (by repeat' (first | exact far_nil _ | exact far_R hR (by omega) | refine far_cons (by omega) ?_)) (v := .int .i64 (((i) % 16 : Nat) : Int)) (fun o ho w' hS => do_i15 ho (hk.at (List.mem_cons_self ..))) ?_
  clear hk; intro a hk
  refine plan_k hO.o8 hk (by omega) (by repeat' (first | exact far_nil _ | exact far_R hR (by omega) | refine far_cons (by omega) ?_)) (v := .pointer (some ⟨gw, (i) % 16, none⟩)) (fun o ho w' hS => do_wat ho (hk.at (List.mem_cons_of_mem _ (List.mem_cons_of_mem _ (List.mem_cons_of_mem _ (List.mem_cons_of_mem _ (List.mem_cons_of_mem _ (List.mem_cons_of_mem _ (List.mem_cons_of_mem _ (List.mem_cons_of_mem _ (List.mem_cons_of_mem _ (List.mem_cons_self ..))))))))))) (hk.at (List.mem_cons_self ..)) (by omega)) ?_
  clear hk; intro a hk
  refine plan_k hO.o9 hk (by omega) (by repeat' (first | exact far_nil _ | exact far_R hR (by omega) | refine far_cons (by omega) ?_)) (v := .int .u32 (wAt s.W ((i) % 16))) (fun o ho w' hS => do_load32 ho (hk.at (List.mem_cons_self ..)) (hLW _ (by omega) w' hS)) ?_
  clear hk; intro a hk
  refine plan_k hO.o10 hk (by omega) (by repeat' (first | exact far_nil _ | exact far_R hR (by omega) | refine far_cons (by omega) ?_)) (v := .int .u32 (uAdd (uAdd (uAdd (rot5 (s.a)) (x)) (s.e)) (wAt s.W ((i) % 16)))) (fun o ho w' hS => do_add ho (hk.at (List.mem_cons_of_mem _ (List.mem_cons_of_mem _ (List.mem_cons_of_mem _ (List.mem_cons_of_mem _ (List.mem_cons_self ..)))))) (hk.at (List.mem_cons_self ..))) ?_
  clear hk; intro a hk
  refine plan_k hO.o11 hk (by omega) (by repeat' (first | exact far_nil _ | exact far_R hR (by omega) | refine far_cons (by omega) ?_)) (v := .int .u32 (uAdd (uAdd (uAdd (uAdd (rot5 (s.a)) (x)) (s.e)) (wAt s.W ((i) % 16))) K)) (fun o ho w' hS => do_add ho (hk.at (List.mem_cons_self ..)) rfl) ?_
  clear hk; intro a hk
  refine plan_k hO.o12 hk (by omega) (by repeat' (first | exact far_nil _ | exact far_R hR (by omega) | refine far_cons (by omega) ?_)) (v := .int .u32 (uAdd (uAdd (uAdd (uAdd (rot5 (s.a)) (x)) (s.e)) (wAt s.W ((i) % 16))) K)) (fun o ho w' hS => do_assign ho (hk.at (List.mem_cons_self ..))) ?_
  clear hk; intro a hk
  refine plan_k0 ?_
  refine h _ _ hpW hb1 ?_
  refine ⟨hk.1, hk.2.1, fun x hx => hk.2.2 x ?_⟩
  rcases List.mem_cons.1 hx with rfl | hx
  · exact List.mem_cons_self ..
  rcases List.mem_cons.1 hx with rfl | hx
  · exact List.mem_cons_of_mem _ (List.mem_cons_of_mem _ (List.mem_cons_of_mem _ (List.mem_cons_of_mem _ (List.mem_cons_of_mem _ (List.mem_cons_of_mem _ (List.mem_cons_of_mem _ (List.mem_cons_of_mem _ (List.mem_cons_of_mem _ (List.mem_cons_of_mem _ (List.mem_cons_of_mem _ (List.mem_cons_of_mem _ (List.mem_cons_of_mem _ (List.mem_cons_of_mem _ (List.mem_cons_self ..))))))))))))))
  rcases List.mem_cons.1 hx with rfl | hx
  · exact List.mem_cons_of_mem _ (List.mem_cons_of_mem _ (List.mem_cons_of_mem _ (List.mem_cons_of_mem _ (List.mem_cons_of_mem _ (List.mem_cons_of_mem _ (List.mem_cons_of_mem _ (List.mem_cons_of_mem _ (List.mem_cons_of_mem _ (List.mem_cons_of_mem _ (List.mem_cons_of_mem _ (List.mem_cons_of_mem _ (List.mem_cons_of_mem _ (List.mem_cons_of_mem _ (List.mem_cons_of_mem _ (List.mem_cons_self ..)))))))))))))))
  rcases List.mem_cons.1 hx with rfl | hx
  · exact List.mem_cons_of_mem _ (List.mem_cons_of_mem _ (List.mem_cons_of_mem _ (List.mem_cons_of_mem _ (List.mem_cons_of_mem _ (List.mem_cons_of_mem _ (List.mem_cons_of_mem _ (List.mem_cons_of_mem _ (List.mem_cons_of_mem _ (List.mem_cons_of_mem _ (List.mem_cons_of_mem _ (List.mem_cons_of_mem _ (List.mem_cons_of_mem _ (List.mem_cons_of_mem _ (List.mem_cons_of_mem _ (List.mem_cons_of_mem _ (List.mem_cons_self ..))))))))))))))))
  rcases List.mem_cons.1 hx with rfl | hx
  · exact List.mem_cons_of_mem _ (List.mem_cons_of_mem _ (List.mem_cons_of_mem _ (List.mem_cons_of_mem _ (List.mem_cons_of_mem _ (List.mem_cons_of_mem _ (List.mem_cons_of_mem _ (List.mem_cons_of_mem _ (List.mem_cons_of_mem _ (List.mem_cons_of_mem _ (List.mem_cons_of_mem _ (List.mem_cons_of_mem _ (List.mem_cons_of_mem _ (List.mem_cons_of_mem _ (List.mem_cons_of_mem _ (List.mem_cons_of_mem _ (List.mem_cons_of_mem _ (List.mem_cons_self ..)))))))))))))))))
  rcases List.mem_cons.1 hx with rfl | hx
  · exact List.mem_cons_of_mem _ (List.mem_cons_of_mem _ (List.mem_cons_of_mem _ (List.mem_cons_of_mem _ (List.mem_cons_of_mem _ (List.mem_cons_of_mem _ (List.mem_cons_of_mem _ (List.mem_cons_of_mem _ (List.mem_cons_of_mem _ (List.mem_cons_of_mem _ (List.mem_cons_of_mem _ (List.mem_cons_of_mem _ (List.mem_cons_of_mem _ (List.mem_cons_of_mem _ (List.mem_cons_of_mem _ (List.mem_cons_of_mem _ (List.mem_cons_of_mem _ (List.mem_cons_of_mem _ (List.mem_cons_self ..))))))))))))))))))
  rcases List.mem_cons.1 hx with rfl | hx
  · exact List.mem_cons_of_mem _ (List.mem_cons_of_mem _ (List.mem_cons_of_mem _ (List.mem_cons_of_mem _ (List.mem_cons_of_mem _ (List.mem_cons_of_mem _ (List.mem_cons_of_mem _ (List.mem_cons_of_mem _ (List.mem_cons_of_mem _ (List.mem_cons_of_mem _ (List.mem_cons_of_mem _ (List.mem_cons_of_mem _ (List.mem_cons_of_mem _ (List.mem_cons_of_mem _ (List.mem_cons_of_mem _ (List.mem_cons_of_mem _ (List.mem_cons_of_mem _ (List.mem_cons_of_mem _ (List.mem_cons_of_mem _ (List.mem_cons_self ..)))))))))))))))))))
  rcases List.mem_cons.1 hx with rfl | hx
  · exact List.mem_cons_of_mem _ (List.mem_cons_of_mem _ (List.mem_cons_of_mem _ (List.mem_cons_of_mem _ (List.mem_cons_of_mem _ (List.mem_cons_of_mem _ (List.mem_cons_of_mem _ (List.mem_cons_of_mem _ (List.mem_cons_of_mem _ (List.mem_cons_of_mem _ (List.mem_cons_of_mem _ (List.mem_cons_of_mem _ (List.mem_cons_of_mem _ (List.mem_cons_of_mem _ (List.mem_cons_of_mem _ (List.mem_cons_of_mem _ (List.mem_cons_of_mem _ (List.mem_cons_of_mem _ (List.mem_cons_of_mem _ (List.mem_cons_of_mem _ (List.mem_cons_self ..))))))))))))))))))))
  exact List.mem_cons_of_mem _ (List.mem_cons_of_mem _ (List.mem_cons_of_mem _ (List.mem_cons_of_mem _ (List.mem_cons_of_mem _ (List.mem_cons_of_mem _ (List.mem_cons_of_mem _ (List.mem_cons_of_mem _ (List.mem_cons_of_mem _ (List.mem_cons_of_mem _ (List.mem_cons_of_mem _ (List.mem_cons_of_mem _ (List.mem_cons_of_mem _ (List.mem_cons_of_mem _ (List.mem_cons_of_mem _ (List.mem_cons_of_mem _ (List.mem_cons_of_mem _ (List.mem_cons_of_mem _ (List.mem_cons_of_mem _ (List.mem_cons_of_mem _ (List.mem_cons_of_mem _ (hx)))))))))))))))))))))
structure RegM (l : List Oper) (b d : Nat) : Prop where
  len : l.length = 11
  o0 : (l[0]?).map coreO = some (.move (.tmp (d)), (some (b)), none)
  o1 : (l[1]?).map coreO = some (.move (.tmp 12), (some (b + 1)), none)
  o2 : (l[2]?).map coreO = some (.move (.tmp 13), (some (b + 2)), none)
  o3 : (l[3]?).map coreO = some (.call { callee := .value (.func 26), args := #[(.tmp (b + 2)), .const (.int .i64 30)], argTypes := #[43, 3] }, (some (b + 3)), none)
  o4 : (l[4]?).map coreO = some (.move (.tmp 14), (some (b + 4)), none)
  o5 : (l[5]?).map coreO = some (.move (.tmp 15), (some (b + 5)), none)
  o6 : (l[6]?).map coreO = some (.assign (.tmp (b)), (some 12), none)
  o7 : (l[7]?).map coreO = some (.assign (.tmp (b + 1)), (some 13), none)
  o8 : (l[8]?).map coreO = some (.assign (.tmp (b + 3)), (some 14), none)
  o9 : (l[9]?).map coreO = some (.assign (.tmp (b + 4)), (some 15), none)
  o10 : (l[10]?).map coreO = some (.assign (.tmp (b + 5)), (some 16), none)
theorem RegM_ok {Q : Exit → Act → World → Prop} {id : Nat} {l : List Oper} {a : Act} {w : World} {gw i : Nat} {s : St} {R : List (Nat × Value)} {x : Int} {b d : Nat} (hO : RegM l b d) (h1 : 57 ≤ b) (h2 : b + 5 ≤ 396) (h3 : 18 ≤ d) (h4 : d < 57) (hR : ∀ x ∈ R, x.1 < 10) (hk : Keeps 397 ((d, .int .u32 (x)) :: (4, .pointer (some ⟨gw, 0, none⟩)) :: (12, .int .u32 (s.a)) :: (13, .int .u32 (s.b)) :: (14, .int .u32 (s.c)) :: (15, .int .u32 (s.d)) :: (16, .int .u32 (s.e)) :: (17, .int .i64 ((i : Nat) : Int)) :: R) a)
    (h : ∀ a', Keeps 397 ((4, .pointer (some ⟨gw, 0, none⟩)) :: (12, .int .u32 (x)) :: (13, .int .u32 (s.a)) :: (14, .int .u32 (rot30 s.b)) :: (15, .int .u32 (s.c)) :: (16, .int .u32 (s.d)) :: (17, .int .i64 ((i : Nat) : Int)) :: R) a' → Q .normal a' w) : (Code.region id l.toArray false).wp Try.prog Q a w := by
  refine lit_start ?_
  refine drop_k hO.o0 hk (by omega) (by repeat' (first | exact far_nil _ | exact far_R hR (by omega) | refine far_cons (by omega) ?_)) (v := .int .u32 (x)) (fun o ho => do_move ho (hk.at (List.mem_cons_self ..))) ?_
  clear hk; intro a hk
  refine drop_k hO.o1 hk (by omega) (by repeat' (first | exact far_nil _ | exact far_R hR (by omega) | refine far_cons (by omega) ?_)) (v := .int .u32 (s.a)) (fun o ho => do_move ho (hk.at (List.mem_cons_of_mem _ (List.mem_cons_of_mem _ (List.mem_cons_of_mem _ (List.mem_cons_self ..)))))) ?_
  clear hk; intro a hk
  refine drop_k hO.o2 hk (by omega) (by repeat' (first | exact far_nil _ | exact far_R hR (by omega) | refine far_cons (by omega) ?_)) (v := .int .u32 (s.b)) (fun o ho => do_move ho (hk.at (List.mem_cons_of_mem _ (List.mem_cons_of_mem _ (List.mem_cons_of_mem _ (List.mem_cons_of_mem _ (List.mem_cons_of_mem _ (List.mem_cons_self ..)))))))) ?_
  clear hk; intro a hk
  refine drop_call hO.o3 hk (by omega) (by repeat' (first | exact far_nil _ | exact far_R hR (by omega) | refine far_cons (by omega) ?_)) (v := .int .u32 (rot30 s.b)) (fun o ho => do_call2 ho (hk.at (List.mem_cons_self ..)) rfl (rot_enter _ _)) (rot30_ok _ _) ?_
  clear hk; intro a hk
  refine drop_k hO.o4 hk (by omega) (by repeat' (first | exact far_nil _ | exact far_R hR (by omega) | refine far_cons (by omega) ?_)) (v := .int .u32 (s.c)) (fun o ho => do_move ho (hk.at (List.mem_cons_of_mem _ (List.mem_cons_of_mem _ (List.mem_cons_of_mem _ (List.mem_cons_of_mem _ (List.mem_cons_of_mem _ (List.mem_cons_of_mem _ (List.mem_cons_of_mem _ (List.mem_cons_of_mem _ (List.mem_cons_self ..))))))))))) ?_
  clear hk; intro a hk
  refine drop_k hO.o5 hk (by omega) (by repeat' (first | exact far_nil _ | exact far_R hR (by omega) | refine far_cons (by omega) ?_)) (v := .int .u32 (s.d)) (fun o ho => do_move ho (hk.at (List.mem_cons_of_mem _ (List.mem_cons_of_mem _ (List.mem_cons_of_mem _ (List.mem_cons_of_mem _ (List.mem_cons_of_mem _ (List.mem_cons_of_mem _ (List.mem_cons_of_mem _ (List.mem_cons_of_mem _ (List.mem_cons_of_mem _ (List.mem_cons_of_mem _ (List.mem_cons_self ..))))))))))))) ?_
  clear hk; intro a hk
  have hk2 : Keeps 397 ((b, .int .u32 (x)) :: (b + 1, .int .u32 (s.a)) :: (b + 3, .int .u32 (rot30 s.b)) :: (b + 4, .int .u32 (s.c)) :: (b + 5, .int .u32 (s.d)) :: (4, .pointer (some ⟨gw, 0, none⟩)) :: (17, .int .i64 ((i : Nat) : Int)) :: R) a := by
    refine ⟨hk.1, hk.2.1, fun x hx => hk.2.2 x ?_⟩
    rcases List.mem_cons.1 hx with rfl | hx
    · exact List.mem_cons_of_mem _ (List.mem_cons_of_mem _ (List.mem_cons_of_mem _ (List.mem_cons_of_mem _ (List.mem_cons_of_mem _ (List.mem_cons_self ..)))))
    rcases List.mem_cons.1 hx with rfl | hx
    · exact List.mem_cons_of_mem _ (List.mem_cons_of_mem _ (List.mem_cons_of_mem _ (List.mem_cons_of_mem _ (List.mem_cons_self ..))))
    rcases List.mem_cons.1 hx with rfl | hx
    · exact List.mem_cons_of_mem _ (List.mem_cons_of_mem _ (List.mem_cons_self ..))
    rcases List.mem_cons.1 hx with rfl | hx
    · exact List.mem_cons_of_mem _ (List.mem_cons_self ..)
    rcases List.mem_cons.1 hx with rfl | hx
    · exact List.mem_cons_self ..
    rcases List.mem_cons.1 hx with rfl | hx
    · exact List.mem_cons_of_mem _ (List.mem_cons_of_mem _ (List.mem_cons_of_mem _ (List.mem_cons_of_mem _ (List.mem_cons_of_mem _ (List.mem_cons_of_mem _ (List.mem_cons_of_mem _ (List.mem_cons_self ..)))))))
    rcases List.mem_cons.1 hx with rfl | hx
    · exact List.mem_cons_of_mem _ (List.mem_cons_of_mem _ (List.mem_cons_of_mem _ (List.mem_cons_of_mem _ (List.mem_cons_of_mem _ (List.mem_cons_of_mem _ (List.mem_cons_of_mem _ (List.mem_cons_of_mem _ (List.mem_cons_of_mem _ (List.mem_cons_of_mem _ (List.mem_cons_of_mem _ (List.mem_cons_of_mem _ (List.mem_cons_of_mem _ (List.mem_cons_self ..)))))))))))))
    exact List.mem_cons_of_mem _ (List.mem_cons_of_mem _ (List.mem_cons_of_mem _ (List.mem_cons_of_mem _ (List.mem_cons_of_mem _ (List.mem_cons_of_mem _ (List.mem_cons_of_mem _ (List.mem_cons_of_mem _ (List.mem_cons_of_mem _ (List.mem_cons_of_mem _ (List.mem_cons_of_mem _ (List.mem_cons_of_mem _ (List.mem_cons_of_mem _ (List.mem_cons_of_mem _ (hx))))))))))))))
  clear hk
  have hk := hk2
  clear hk2
  refine drop_k hO.o6 hk (by omega) (by repeat' (first | exact far_nil _ | exact far_R hR (by omega) | refine far_cons (by omega) ?_)) (v := .int .u32 (x)) (fun o ho => do_assign ho (hk.at (List.mem_cons_self ..))) ?_
  clear hk; intro a hk
  refine drop_k hO.o7 hk (by omega) (by repeat' (first | exact far_nil _ | exact far_R hR (by omega) | refine far_cons (by omega) ?_)) (v := .int .u32 (s.a)) (fun o ho => do_assign ho (hk.at (List.mem_cons_of_mem _ (List.mem_cons_of_mem _ (List.mem_cons_self ..))))) ?_
  clear hk; intro a hk
  refine drop_k hO.o8 hk (by omega) (by repeat' (first | exact far_nil _ | exact far_R hR (by omega) | refine far_cons (by omega) ?_)) (v := .int .u32 (rot30 s.b)) (fun o ho => do_assign ho (hk.at (List.mem_cons_of_mem _ (List.mem_cons_of_mem _ (List.mem_cons_of_mem _ (List.mem_cons_of_mem _ (List.mem_cons_self ..))))))) ?_
  clear hk; intro a hk
  refine drop_k hO.o9 hk (by omega) (by repeat' (first | exact far_nil _ | exact far_R hR (by omega) | refine far_cons (by omega) ?_)) (v := .int .u32 (s.c)) (fun o ho => do_assign ho (hk.at (List.mem_cons_of_mem _ (List.mem_cons_of_mem _ (List.mem_cons_of_mem _ (List.mem_cons_of_mem _ (List.mem_cons_of_mem _ (List.mem_cons_of_mem _ (List.mem_cons_self ..))))))))) ?_
  clear hk; intro a hk
  refine drop_k hO.o10 hk (by omega) (by repeat' (first | exact far_nil _ | exact far_R hR (by omega) | refine far_cons (by omega) ?_)) (v := .int .u32 (s.d)) (fun o ho => do_assign ho (hk.at (List.mem_cons_of_mem _ (List.mem_cons_of_mem _ (List.mem_cons_of_mem _ (List.mem_cons_of_mem _ (List.mem_cons_of_mem _ (List.mem_cons_of_mem _ (List.mem_cons_of_mem _ (List.mem_cons_of_mem _ (List.mem_cons_self ..))))))))))) ?_
  clear hk; intro a hk
  refine drop_end hO.len ?_
  refine h _ ?_
  refine ⟨hk.1, hk.2.1, fun x hx => hk.2.2 x ?_⟩
  rcases List.mem_cons.1 hx with rfl | hx
  · exact List.mem_cons_of_mem _ (List.mem_cons_of_mem _ (List.mem_cons_of_mem _ (List.mem_cons_of_mem _ (List.mem_cons_of_mem _ (List.mem_cons_of_mem _ (List.mem_cons_of_mem _ (List.mem_cons_of_mem _ (List.mem_cons_of_mem _ (List.mem_cons_of_mem _ (List.mem_cons_self ..))))))))))
  rcases List.mem_cons.1 hx with rfl | hx
  · exact List.mem_cons_of_mem _ (List.mem_cons_of_mem _ (List.mem_cons_of_mem _ (List.mem_cons_of_mem _ (List.mem_cons_self ..))))
  rcases List.mem_cons.1 hx with rfl | hx
  · exact List.mem_cons_of_mem _ (List.mem_cons_of_mem _ (List.mem_cons_of_mem _ (List.mem_cons_self ..)))
  rcases List.mem_cons.1 hx with rfl | hx
  · exact List.mem_cons_of_mem _ (List.mem_cons_of_mem _ (List.mem_cons_self ..))
  rcases List.mem_cons.1 hx with rfl | hx
  · exact List.mem_cons_of_mem _ (List.mem_cons_self ..)
  rcases List.mem_cons.1 hx with rfl | hx
  · exact List.mem_cons_self ..
  rcases List.mem_cons.1 hx with rfl | hx
  · exact List.mem_cons_of_mem _ (List.mem_cons_of_mem _ (List.mem_cons_of_mem _ (List.mem_cons_of_mem _ (List.mem_cons_of_mem _ (List.mem_cons_of_mem _ (List.mem_cons_of_mem _ (List.mem_cons_of_mem _ (List.mem_cons_of_mem _ (List.mem_cons_of_mem _ (List.mem_cons_of_mem _ (List.mem_cons_self ..)))))))))))
  exact List.mem_cons_of_mem _ (List.mem_cons_of_mem _ (List.mem_cons_of_mem _ (List.mem_cons_of_mem _ (List.mem_cons_of_mem _ (List.mem_cons_of_mem _ (List.mem_cons_of_mem _ (List.mem_cons_of_mem _ (List.mem_cons_of_mem _ (List.mem_cons_of_mem _ (List.mem_cons_of_mem _ (List.mem_cons_of_mem _ (hx))))))))))))
structure RegC (l : List Oper) (b j : Nat) : Prop where
  len : l.length = 2
  o0 : (l[0]?).map coreO = some (.move (.tmp 17), (some (b)), none)
  o1 : (l[1]?).map coreO = some (.binOp .lss 3 (.tmp (b)) (.const (.int .i64 ((j : Nat) : Int))) 3, (some (b + 1)), none)
theorem RegC_ok {Q : Exit → Act → World → Prop} {id : Nat} {l : List Oper} {a : Act} {w : World} {gw i : Nat} {s : St} {R : List (Nat × Value)} {b j : Nat} (hO : RegC l b j) (h1 : 57 ≤ b) (h2 : b + 1 ≤ 396) (hR : ∀ x ∈ R, x.1 < 10) (hk : Keeps 397 ((4, .pointer (some ⟨gw, 0, none⟩)) :: (12, .int .u32 (s.a)) :: (13, .int .u32 (s.b)) :: (14, .int .u32 (s.c)) :: (15, .int .u32 (s.d)) :: (16, .int .u32 (s.e)) :: (17, .int .i64 ((i : Nat) : Int)) :: R) a)
    (h : ∀ a', Keeps 397 ((b + 1, .bool (decide (i < j))) :: (4, .pointer (some ⟨gw, 0, none⟩)) :: (12, .int .u32 (s.a)) :: (13, .int .u32 (s.b)) :: (14, .int .u32 (s.c)) :: (15, .int .u32 (s.d)) :: (16, .int .u32 (s.e)) :: (17, .int .i64 ((i : Nat) : Int)) :: R) a' → Q .normal a' w) : (Code.region id l.toArray false).wp Try.prog Q a w := by
  refine lit_start ?_
  refine drop_k hO.o0 hk (by omega) (by repeat' (first | exact far_nil _ | exact far_R hR (by omega) | refine far_cons (by omega) ?_)) (v := .int .i64 ((i : Nat) : Int)) (fun o ho => do_move ho (hk.at (List.mem_cons_of_mem _ (List.mem_cons_of_mem _ (List.mem_cons_of_mem _ (List.mem_cons_of_mem _ (List.mem_cons_of_mem _ (List.mem_cons_of_mem _ (List.mem_cons_self ..))))))))) ?_
  clear hk; intro a hk
  refine drop_k hO.o1 hk (by omega) (by repeat' (first | exact far_nil _ | exact far_R hR (by omega) | refine far_cons (by omega) ?_)) (v := .bool (decide (i < j))) (fun o ho => do_ilss ho (hk.at (List.mem_cons_self ..))) ?_
  clear hk; intro a hk
  refine drop_end hO.len ?_
  refine h _ ?_
  refine ⟨hk.1, hk.2.1, fun x hx => hk.2.2 x ?_⟩
  rcases List.mem_cons.1 hx with rfl | hx
  · exact List.mem_cons_self ..
  rcases List.mem_cons.1 hx with rfl | hx
  · exact List.mem_cons_of_mem _ (List.mem_cons_of_mem _ (List.mem_cons_self ..))
  rcases List.mem_cons.1 hx with rfl | hx
  · exact List.mem_cons_of_mem _ (List.mem_cons_of_mem _ (List.mem_cons_of_mem _ (List.mem_cons_self ..)))
  rcases List.mem_cons.1 hx with rfl | hx
  · exact List.mem_cons_of_mem _ (List.mem_cons_of_mem _ (List.mem_cons_of_mem _ (List.mem_cons_of_mem _ (List.mem_cons_self ..))))
  rcases List.mem_cons.1 hx with rfl | hx
  · exact List.mem_cons_of_mem _ (List.mem_cons_of_mem _ (List.mem_cons_of_mem _ (List.mem_cons_of_mem _ (List.mem_cons_of_mem _ (List.mem_cons_self ..)))))
  rcases List.mem_cons.1 hx with rfl | hx
  · exact List.mem_cons_of_mem _ (List.mem_cons_of_mem _ (List.mem_cons_of_mem _ (List.mem_cons_of_mem _ (List.mem_cons_of_mem _ (List.mem_cons_of_mem _ (List.mem_cons_self ..))))))
  rcases List.mem_cons.1 hx with rfl | hx
  · exact List.mem_cons_of_mem _ (List.mem_cons_of_mem _ (List.mem_cons_of_mem _ (List.mem_cons_of_mem _ (List.mem_cons_of_mem _ (List.mem_cons_of_mem _ (List.mem_cons_of_mem _ (List.mem_cons_self ..)))))))
  rcases List.mem_cons.1 hx with rfl | hx
  · exact List.mem_cons_of_mem _ (List.mem_cons_of_mem _ (List.mem_cons_of_mem _ (List.mem_cons_of_mem _ (List.mem_cons_of_mem _ (List.mem_cons_of_mem _ (List.mem_cons_of_mem _ (List.mem_cons_of_mem _ (List.mem_cons_self ..))))))))
  exact List.mem_cons_of_mem _ (List.mem_cons_of_mem _ (List.mem_cons_of_mem _ (List.mem_cons_of_mem _ (List.mem_cons_of_mem _ (List.mem_cons_of_mem _ (List.mem_cons_of_mem _ (List.mem_cons_of_mem _ (List.mem_cons_of_mem _ (hx)))))))))
structure RegI (l : List Oper) (b : Nat) : Prop where
  len : l.length = 3
  o0 : (l[0]?).map coreO = some (.move (.tmp 17), (some (b)), none)
  o1 : (l[1]?).map coreO = some (.binOp .add 3 (.tmp (b)) (.const (.int .i64 ((1 : Nat) : Int))) 3, (some (b + 1)), none)
  o2 : (l[2]?).map coreO = some (.assign (.tmp (b + 1)), (some 17), none)
theorem RegI_ok {Q : Exit → Act → World → Prop} {id : Nat} {l : List Oper} {a : Act} {w : World} {gw i : Nat} {s : St} {R : List (Nat × Value)} {b : Nat} (hO : RegI l b) (h1 : 57 ≤ b) (h2 : b + 1 ≤ 396) (hi2 : i < 80) (hR : ∀ x ∈ R, x.1 < 10) (hk : Keeps 397 ((4, .pointer (some ⟨gw, 0, none⟩)) :: (12, .int .u32 (s.a)) :: (13, .int .u32 (s.b)) :: (14, .int .u32 (s.c)) :: (15, .int .u32 (s.d)) :: (16, .int .u32 (s.e)) :: (17, .int .i64 ((i : Nat) : Int)) :: R) a)
    (h : ∀ a', Keeps 397 ((4, .pointer (some ⟨gw, 0, none⟩)) :: (12, .int .u32 (s.a)) :: (13, .int .u32 (s.b)) :: (14, .int .u32 (s.c)) :: (15, .int .u32 (s.d)) :: (16, .int .u32 (s.e)) :: (17, .int .i64 ((i + 1 : Nat) : Int)) :: R) a' → Q .normal a' w) : (Code.region id l.toArray false).wp Try.prog Q a w := by
  refine lit_start ?_
  refine drop_k hO.o0 hk (by omega) (by repeat' (first | exact far_nil _ | exact far_R hR (by omega) | refine far_cons (by omega) ?_)) (v := .int .i64 ((i : Nat) : Int)) (fun o ho => do_move ho (hk.at (List.mem_cons_of_mem _ (List.mem_cons_of_mem _ (List.mem_cons_of_mem _ (List.mem_cons_of_mem _ (List.mem_cons_of_mem _ (List.mem_cons_of_mem _ (List.mem_cons_self ..))))))))) ?_
  clear hk; intro a hk
  refine drop_k hO.o1 hk (by omega) (by repeat' (first | exact far_nil _ | exact far_R hR (by omega) | refine far_cons (by omega) ?_)) (v := .int .i64 ((i + 1 : Nat) : Int)) (fun o ho => do_iadd ho (hk.at (List.mem_cons_self ..)) (by omega) (by omega)) ?_
  clear hk; intro a hk
  have hk2 : Keeps 397 ((b + 1, .int .i64 ((i + 1 : Nat) : Int)) :: (4, .pointer (some ⟨gw, 0, none⟩)) :: (12, .int .u32 (s.a)) :: (13, .int .u32 (s.b)) :: (14, .int .u32 (s.c)) :: (15, .int .u32 (s.d)) :: (16, .int .u32 (s.e)) :: R) a := by
    refine ⟨hk.1, hk.2.1, fun x hx => hk.2.2 x ?_⟩
    rcases List.mem_cons.1 hx with rfl | hx
    · exact List.mem_cons_self ..
    rcases List.mem_cons.1 hx with rfl | hx
    · exact List.mem_cons_of_mem _ (List.mem_cons_of_mem _ (List.mem_cons_self ..))
    rcases List.mem_cons.1 hx with rfl | hx
    · exact List.mem_cons_of_mem _ (List.mem_cons_of_mem _ (List.mem_cons_of_mem _ (List.mem_cons_self ..)))
    rcases List.mem_cons.1 hx with rfl | hx
    · exact List.mem_cons_of_mem _ (List.mem_cons_of_mem _ (List.mem_cons_of_mem _ (List.mem_cons_of_mem _ (List.mem_cons_self ..))))
    rcases List.mem_cons.1 hx with rfl | hx
    · exact List.mem_cons_of_mem _ (List.mem_cons_of_mem _ (List.mem_cons_of_mem _ (List.mem_cons_of_mem _ (List.mem_cons_of_mem _ (List.mem_cons_self ..)))))
    rcases List.mem_cons.1 hx with rfl | hx
    · exact List.mem_cons_of_mem _ (List.mem_cons_of_mem _ (List.mem_cons_of_mem _ (List.mem_cons_of_mem _ (List.mem_cons_of_mem _ (List.mem_cons_of_mem _ (List.mem_cons_self ..))))))
    rcases List.mem_cons.1 hx with rfl | hx
    · exact List.mem_cons_of_mem _ (List.mem_cons_of_mem _ (List.mem_cons_of_mem _ (List.mem_cons_of_mem _ (List.mem_cons_of_mem _ (List.mem_cons_of_mem _ (List.mem_cons_of_mem _ (List.mem_cons_self ..)))))))
    exact List.mem_cons_of_mem _ (List.mem_cons_of_mem _ (List.mem_cons_of_mem _ (List.mem_cons_of_mem _ (List.mem_cons_of_mem _ (List.mem_cons_of_mem _ (List.mem_cons_of_mem _ (List.mem_cons_of_mem _ (List.mem_cons_of_mem _ (hx)))))))))
  clear hk
  have hk := hk2
  clear hk2
  refine drop_k hO.o2 hk (by omega) (by repeat' (first | exact far_nil _ | exact far_R hR (by omega) | refine far_cons (by omega) ?_)) (v := .int .i64 ((i + 1 : Nat) : Int)) (fun o ho => do_assign ho (hk.at (List.mem_cons_self ..))) ?_
  clear hk; intro a hk
  refine drop_end hO.len ?_
  refine h _ ?_
  refine ⟨hk.1, hk.2.1, fun x hx => hk.2.2 x ?_⟩
  rcases List.mem_cons.1 hx with rfl | hx
  · exact List.mem_cons_of_mem _ (List.mem_cons_of_mem _ (List.mem_cons_self ..))
  rcases List.mem_cons.1 hx with rfl | hx
  · exact List.mem_cons_of_mem _ (List.mem_cons_of_mem _ (List.mem_cons_of_mem _ (List.mem_cons_self ..)))
  rcases List.mem_cons.1 hx with rfl | hx
  · exact List.mem_cons_of_mem _ (List.mem_cons_of_mem _ (List.mem_cons_of_mem _ (List.mem_cons_of_mem _ (List.mem_cons_self ..))))
  rcases List.mem_cons.1 hx with rfl | hx
  · exact List.mem_cons_of_mem _ (List.mem_cons_of_mem _ (List.mem_cons_of_mem _ (List.mem_cons_of_mem _ (List.mem_cons_of_mem _ (List.mem_cons_self ..)))))
  rcases List.mem_cons.1 hx with rfl | hx
  · exact List.mem_cons_of_mem _ (List.mem_cons_of_mem _ (List.mem_cons_of_mem _ (List.mem_cons_of_mem _ (List.mem_cons_of_mem _ (List.mem_cons_of_mem _ (List.mem_cons_self ..))))))
  rcases List.mem_cons.1 hx with rfl | hx
  · exact List.mem_cons_of_mem _ (List.mem_cons_of_mem _ (List.mem_cons_of_mem _ (List.mem_cons_of_mem _ (List.mem_cons_of_mem _ (List.mem_cons_of_mem _ (List.mem_cons_of_mem _ (List.mem_cons_self ..)))))))
  rcases List.mem_cons.1 hx with rfl | hx
  · exact List.mem_cons_self ..
  exact List.mem_cons_of_mem _ (List.mem_cons_of_mem _ (List.mem_cons_of_mem _ (List.mem_cons_of_mem _ (List.mem_cons_of_mem _ (List.mem_cons_of_mem _ (List.mem_cons_of_mem _ (List.mem_cons_of_mem _ (hx))))))))
end Go.Proofs.Ytjmmkjdlkecmhaa
