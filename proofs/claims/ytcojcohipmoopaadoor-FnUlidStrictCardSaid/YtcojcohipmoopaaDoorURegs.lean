/- ULID's parse: the regions that lay one byte each, in three shapes, over an abstract frame. -/
import Derived.Test.YtcojcohipmoopaaDoorUParse
namespace Go.Proofs.YtcojcohipmoopaaDoor
open Go.RowKit
set_option linter.unusedVariables false
set_option linter.unusedSimpArgs false
section
variable {a : Act} {w : World}
theorem do_shl {o : Oper} {x : Operand} {t u : TypeId} {s : Nat} (hs : s = 1 ∨ s = 2 ∨ s = 3 ∨ s = 4 ∨ s = 5 ∨ s = 6 ∨ s = 7) (ht : t = 5) (ho : o.op = .binOp .shl t x (.const (.int .u64 (s : Int))) u) {n : Nat} (hx : a.eval x = .int .u8 (n : Int)) : (execOp a.eval o).run Tryd.prog w = .ok (.value (.int .u8 ((n * 2 ^ s % 256 : Nat) : Int))) w := by
  subst ht
  have hc : a.eval (.const (.int .u64 (s : Int))) = .int .u64 (s : Int) := rfl
  rcases hs with rfl | rfl | rfl | rfl | rfl | rfl | rfl <;> (unfold execOp; simp only [ho, hx, hc]; go_simp; rw [IntKind.wrap_u8])
theorem do_shr {o : Oper} {x : Operand} {t u : TypeId} {s : Nat} (hs : s = 1 ∨ s = 2 ∨ s = 3 ∨ s = 4 ∨ s = 5 ∨ s = 6 ∨ s = 7) (ht : t = 5) (ho : o.op = .binOp .shr t x (.const (.int .u64 (s : Int))) u) {n : Nat} (hx : a.eval x = .int .u8 (n : Int)) : (execOp a.eval o).run Tryd.prog w = .ok (.value (.int .u8 ((n / 2 ^ s : Nat) : Int))) w := by
  subst ht
  have hc : a.eval (.const (.int .u64 (s : Int))) = .int .u64 (s : Int) := rfl
  rcases hs with rfl | rfl | rfl | rfl | rfl | rfl | rfl <;> (unfold execOp; simp only [ho, hx, hc]; go_simp)
theorem do_or {o : Oper} {x y : Operand} {t u : TypeId} (ho : o.op = .binOp .or t x y u) {m n : Nat} (hx : a.eval x = .int .u8 (m : Int)) (hy : a.eval y = .int .u8 (n : Int)) (hm : m < 256) (hn : n < 256) : (execOp a.eval o).run Tryd.prog w = .ok (.value (.int .u8 ((m ||| n : Nat) : Int))) w := by
  have e := u8_or_nat m n hm hn
  unfold execOp
  simp only [ho, hx, hy]
  go_simp
theorem do_nil {o : Oper} {x : Operand} (ho : o.op = .nilCheck x) {ad : Addr} (hx : a.eval x = .pointer (some ad)) : (execOp a.eval o).run Tryd.prog w = .ok (.value (.pointer (some ad))) w := by
  unfold execOp
  simp only [ho, hx]
  go_simp
theorem do_at {o : Oper} {x : Operand} {j : Nat} (ho : o.op = .indexAddr 33 x (.const (.int .i64 (j : Int)))) {g : Nat} (hx : a.eval x = .pointer (some ⟨g, 0, none⟩)) (hj : j < 16) : (execOp a.eval o).run Tryd.prog w = .ok (.value (.pointer (some ⟨g, j, none⟩))) w := by
  have hc : a.eval (.const (.int .i64 (j : Int))) = .int .i64 (j : Int) := rfl
  unfold execOp
  simp only [ho, hx, hc]
  go_simp
  intro hh
  omega
end
theorem far_nil (d : Nat) : ∀ x ∈ ([] : List (Nat × Value)), d ≠ x.1 := fun _ h => by cases h
theorem far_cons {d t : Nat} {v : Value} {L : List (Nat × Value)} (h : d ≠ t) (hL : ∀ x ∈ L, d ≠ x.1) : ∀ x ∈ (t, v) :: L, d ≠ x.1 := fun x hx => by
  rcases List.mem_cons.1 hx with rfl | hx
  · exact h
  · exact hL x hx
/-- One operation that only reads: its value stands in its slot behind it. -/
theorem plan_k {P : Program} {OPS : Array Oper} {Q : Exit → Act → World → Prop} {S : World → Prop} {l : List Oper} {k : Nat} {rest : List (Nat × Nat)} {a : Act} {w : World} {c : Op} {d n : Nat} {v : Value} {L : List (Nat × Value)} (hl : (l[k]?).map coreO = some (c, some d, none)) (hk : Keeps n L a) (hd : d < n) (hf : ∀ x ∈ L, d ≠ x.1)
    (hy : ∀ o : Oper, o.op = c → ∀ w', S w' → (execOp a.eval o).run P w' = .ok (.value v) w') (h : ∀ a', Keeps n ((d, v) :: L) a' → wpPlan P OPS Q S (planOps2 l rest) a' w) : wpPlan P OPS Q S (planOps2 l ((k, 0) :: rest)) a w := by
  obtain ⟨o, ho, hc⟩ := Option.map_eq_some_iff.1 hl
  have h1 : o.op = c := congrArg (fun x => x.1) hc
  have h2 : o.dst = some d := congrArg (fun x => x.2.1) hc
  have h3 : o.guard = none := congrArg (fun x => x.2.2) hc
  have e : planOps2 l ((k, 0) :: rest) = (0, strip o) :: planOps2 l rest := by
    conv => lhs; unfold planOps2
    rw [List.filterMap_cons]
    simp only [ho, Option.map_some]
    rfl
  rw [e]
  refine plan_still (v := v) (wanted_free (o := strip o) h3) (hy (strip o) h1) ?_
  have hp : a.put (strip o).dst v = a.put (some d) v := by rw [← h2]; rfl
  rw [hp]
  have K := hk.put (d := d) v hf
  exact h _ ⟨K.1, K.2.1, fun x hx => by
    rcases List.mem_cons.1 hx with rfl | hx
    · exact ev_self (by rw [hk.1]; exact hd)
    · exact K.2.2 x hx⟩
theorem plan_end {P : Program} {OPS : Array Oper} {Q : Exit → Act → World → Prop} {S : World → Prop} {l : List Oper} {k : Nat} {a : Act} {w : World} {c : Op} (hl : (l[k]?).map coreO = some (c, none, none)) 
    (h : ∀ o : Oper, o.op = c → o.dst = none → o.guard = none → wpList P OPS (Exit.then (fun a' w' => Q .normal a' w') Q) [o] a w) : wpPlan P OPS Q S (planOps2 l [(k, 2)]) a w := by
  obtain ⟨o, ho, hc⟩ := Option.map_eq_some_iff.1 hl
  have e : planOps2 l [(k, 2)] = [(2, strip o)] := by
    unfold planOps2
    rw [List.filterMap_cons]
    simp only [ho, Option.map_some]
    rfl
  rw [e]
  exact plan_last (h (strip o) (congrArg (fun x => x.1) hc) (congrArg (fun x => x.2.1) hc) (congrArg (fun x => x.2.2) hc))

theorem or_lt {m n : Nat} (hm : m < 256) (hn : n < 256) : m ||| n < 256 := Nat.or_lt_two_pow (n := 8) hm hn
theorem grown_then' {x y u : World} {r : Option Nat} (h1 : Below x.heap.size x y) (h2 : y.grownBy u r) : x.grownBy u r := grown_trans (grown_below h1 r) h2
structure regAOps (l : List Oper) (b p q s j : Nat) : Prop where
  len : l.length = 16
  o0 : (l[0]?).map coreO = some (.move (.tmp 2), some b, none)
  o1 : (l[1]?).map coreO = some (.move (.tmp 0), some (b + 1), none)
  o2 : (l[2]?).map coreO = some (.indexAddr 22 (.tmp (b + 1)) (.const (.int .i64 (p : Int))), some (b + 2), none)
  o3 : (l[3]?).map coreO = some (.load 5 (.tmp (b + 2)), some (b + 3), none)
  o4 : (l[4]?).map coreO = some (.indexAddr 52 (.global 0) (.tmp (b + 3)), some (b + 4), none)
  o5 : (l[5]?).map coreO = some (.load 5 (.tmp (b + 4)), some (b + 5), none)
  o6 : ∃ uu, (l[6]?).map coreO = some (.binOp .shl 5 (.tmp (b + 5)) (.const (.int .u64 (s : Int))) uu, some (b + 6), none)
  o7 : (l[7]?).map coreO = some (.move (.tmp 0), some (b + 7), none)
  o8 : (l[8]?).map coreO = some (.indexAddr 22 (.tmp (b + 7)) (.const (.int .i64 (q : Int))), some (b + 8), none)
  o9 : (l[9]?).map coreO = some (.load 5 (.tmp (b + 8)), some (b + 9), none)
  o10 : (l[10]?).map coreO = some (.indexAddr 52 (.global 0) (.tmp (b + 9)), some (b + 10), none)
  o11 : (l[11]?).map coreO = some (.load 5 (.tmp (b + 10)), some (b + 11), none)
  o12 : ∃ uu, (l[12]?).map coreO = some (.binOp .or 5 (.tmp (b + 6)) (.tmp (b + 11)) uu, some (b + 12), none)
  o13 : (l[13]?).map coreO = some (.nilCheck (.tmp b), some (b + 13), none)
  o14 : (l[14]?).map coreO = some (.indexAddr 33 (.tmp (b + 13)) (.const (.int .i64 (j : Int))), some (b + 14), none)
  o15 : (l[15]?).map coreO = some (.store 5 (.tmp (b + 14)) (.tmp (b + 12)), none, none)
theorem regA_ok {Q : Exit → Act → World → Prop} {id : Nat} {l : List Oper} {a : Act} {w : World} {gv cap g b p q s j : Nat} {T : List UInt8} {cs : List Value} {ty : TypeId} {B0 : Nat} {w0 : World} (hO : regAOps l b p q s j) (hb7 : 7 ≤ b) (hb : b + 15 ≤ 520) (hp : p < 26) (hq : q < 26) (hs : s = 1 ∨ s = 2 ∨ s = 3 ∨ s = 4 ∨ s = 5 ∨ s = 6 ∨ s = 7) (hj : j < 16)
    (hno : Region.noSelect l.toArray = true) (hok : planOk .any l.toArray (([(0, 0), (1, 0), (2, 0), (3, 0), (4, 0), (5, 0), (6, 0), (7, 0), (8, 0), (9, 0), (10, 0), (11, 0), (12, 0), (13, 0), (14, 0), (15, 2)].filter (·.2 == 0)).map (·.1)) [(0, 0), (1, 0), (2, 0), (3, 0), (4, 0), (5, 0), (6, 0), (7, 0), (8, 0), (9, 0), (10, 0), (11, 0), (12, 0), (13, 0), (14, 0), (15, 2)] (Array.replicate l.length false) = true) (hQ : ∀ c a d v w, Q (.panic c) (a.put d v) w → Q (.panic c) a w)
    (hk : Keeps 520 [(0, .slice (some ⟨gv, 0, none⟩) 26 cap), (2, .pointer (some ⟨g, 0, none⟩)), (6, .nilIface)] a) (hc : ∀ i, i < 26 → w.cell? ⟨gv, i, none⟩ = some (.int .u8 (B T i : Nat))) (hD : DTab w) (hg : Blk w g cs ty) (hcs : cs.length = 16) (hw : Below B0 w0 w) (hB : B0 ≤ g)
    (h : ∀ a' w', Keeps 520 [(0, .slice (some ⟨gv, 0, none⟩) 26 cap), (2, .pointer (some ⟨g, 0, none⟩)), (6, .nilIface)] a' → Blk w' g (cs.set j (.int .u8 ((dv T p * 2 ^ s % 256 ||| dv T q : Nat) : Int))) ty → w.grownBy w' (some g) → Below B0 w0 w' → Q .normal a' w') : (Code.region id l.toArray true).wp Tryd.prog Q a w := by
  refine region_plan2 (fun w' => Below w.heap.size w w') [(0, 0), (1, 0), (2, 0), (3, 0), (4, 0), (5, 0), (6, 0), (7, 0), (8, 0), (9, 0), (10, 0), (11, 0), (12, 0), (13, 0), (14, 0), (15, 2)] rfl hno hok (by rw [hO.len]; rfl) hQ (fun _ _ h => h) ?_
  intro OPS w1 hpW hb1
  clear hpW
  have hC : ∀ i, i < 26 → ∀ w', Below w.heap.size w w' → w'.cell? ⟨gv, i, none⟩ = some (.int .u8 (B T i : Nat)) := fun i hi w' hS => by
    have := hc i hi
    rw [hS.cell (World.block_lt_of_cell? w _ this)]
    exact this
  have hT : ∀ c, c < 256 → ∀ w', Below w.heap.size w w' → w'.cell? ⟨0, c, none⟩ = some (.int .u8 ((dec32 c : Nat) : Int)) := fun c hc' w' hS => (DTab.kept hD hS) c hc' 
  refine plan_k hO.o0 hk (by omega) (by repeat' (first | exact far_nil _ | refine far_cons (by omega) ?_)) (v := .pointer (some ⟨g, 0, none⟩)) (fun o ho w' hS => do_move ho (hk.at (t := 2) (by simp))) ?_
  clear hk; intro a hk
  refine plan_k hO.o1 hk (by omega) (by repeat' (first | exact far_nil _ | refine far_cons (by omega) ?_)) (v := .slice (some ⟨gv, 0, none⟩) 26 cap) (fun o ho w' hS => do_move ho (hk.at (t := 0) (by simp))) ?_
  clear hk; intro a hk
  refine plan_k hO.o2 hk (by omega) (by repeat' (first | exact far_nil _ | refine far_cons (by omega) ?_)) (v := .pointer (some ⟨gv, p, none⟩)) (fun o ho w' hS => (by have := still_index (S := fun _ => True) (b := gv) (off := 0) (n := 26) (c := cap) (i := p) ho Tryd.underlying22 (by kernel_rfl) (hk.at (t := b + 1) (by simp)) rfl hp w' trivial; rw [Nat.zero_add] at this; exact this)) ?_
  clear hk; intro a hk
  refine plan_k hO.o3 hk (by omega) (by repeat' (first | exact far_nil _ | refine far_cons (by omega) ?_)) (v := .int .u8 (B T p : Nat)) (fun o ho w' hS => do_load ho (hk.at (t := b + 2) (by simp)) (hC p hp w' hS)) ?_
  clear hk; intro a hk
  refine plan_k hO.o4 hk (by omega) (by repeat' (first | exact far_nil _ | refine far_cons (by omega) ?_)) (v := .pointer (some ⟨0, B T p, none⟩)) (fun o ho w' hS => do_tab ho (hk.at (t := b + 3) (by simp)) (B_lt T p)) ?_
  clear hk; intro a hk
  refine plan_k hO.o5 hk (by omega) (by repeat' (first | exact far_nil _ | refine far_cons (by omega) ?_)) (v := .int .u8 (dv T p : Nat)) (fun o ho w' hS => do_load ho (hk.at (t := b + 4) (by simp)) (hT (B T p) (B_lt T p) w' hS)) ?_
  clear hk; intro a hk
  obtain ⟨u6, e6⟩ := hO.o6
  refine plan_k e6 hk (by omega) (by repeat' (first | exact far_nil _ | refine far_cons (by omega) ?_)) (v := .int .u8 ((dv T p * 2 ^ s % 256) : Nat)) (fun o ho w' hS => do_shl hs rfl ho (hk.at (t := b + 5) (by simp))) ?_
  clear hk; intro a hk
  refine plan_k hO.o7 hk (by omega) (by repeat' (first | exact far_nil _ | refine far_cons (by omega) ?_)) (v := .slice (some ⟨gv, 0, none⟩) 26 cap) (fun o ho w' hS => do_move ho (hk.at (t := 0) (by simp))) ?_
  clear hk; intro a hk
  refine plan_k hO.o8 hk (by omega) (by repeat' (first | exact far_nil _ | refine far_cons (by omega) ?_)) (v := .pointer (some ⟨gv, q, none⟩)) (fun o ho w' hS => (by have := still_index (S := fun _ => True) (b := gv) (off := 0) (n := 26) (c := cap) (i := q) ho Tryd.underlying22 (by kernel_rfl) (hk.at (t := b + 7) (by simp)) rfl hq w' trivial; rw [Nat.zero_add] at this; exact this)) ?_
  clear hk; intro a hk
  refine plan_k hO.o9 hk (by omega) (by repeat' (first | exact far_nil _ | refine far_cons (by omega) ?_)) (v := .int .u8 (B T q : Nat)) (fun o ho w' hS => do_load ho (hk.at (t := b + 8) (by simp)) (hC q hq w' hS)) ?_
  clear hk; intro a hk
  refine plan_k hO.o10 hk (by omega) (by repeat' (first | exact far_nil _ | refine far_cons (by omega) ?_)) (v := .pointer (some ⟨0, B T q, none⟩)) (fun o ho w' hS => do_tab ho (hk.at (t := b + 9) (by simp)) (B_lt T q)) ?_
  clear hk; intro a hk
  refine plan_k hO.o11 hk (by omega) (by repeat' (first | exact far_nil _ | refine far_cons (by omega) ?_)) (v := .int .u8 (dv T q : Nat)) (fun o ho w' hS => do_load ho (hk.at (t := b + 10) (by simp)) (hT (B T q) (B_lt T q) w' hS)) ?_
  clear hk; intro a hk
  obtain ⟨u12, e12⟩ := hO.o12
  refine plan_k e12 hk (by omega) (by repeat' (first | exact far_nil _ | refine far_cons (by omega) ?_)) (v := .int .u8 (((dv T p * 2 ^ s % 256) ||| dv T q) : Nat)) (fun o ho w' hS => do_or ho (hk.at (t := b + 6) (by simp)) (hk.at (t := b + 11) (by simp)) (by first | exact dv_lt _ _ | exact Nat.mod_lt _ (by decide) | exact Nat.lt_of_le_of_lt (Nat.div_le_self _ _) (dv_lt _ _) | exact or_lt (Nat.mod_lt _ (by decide)) (Nat.mod_lt _ (by decide)) | exact or_lt (Nat.mod_lt _ (by decide)) (dv_lt _ _)) (by first | exact dv_lt _ _ | exact Nat.mod_lt _ (by decide) | exact Nat.lt_of_le_of_lt (Nat.div_le_self _ _) (dv_lt _ _) | exact or_lt (Nat.mod_lt _ (by decide)) (Nat.mod_lt _ (by decide)) | exact or_lt (Nat.mod_lt _ (by decide)) (dv_lt _ _))) ?_
  clear hk; intro a hk
  refine plan_k hO.o13 hk (by omega) (by repeat' (first | exact far_nil _ | refine far_cons (by omega) ?_)) (v := .pointer (some ⟨g, 0, none⟩)) (fun o ho w' hS => do_nil ho (hk.at (t := b) (by simp))) ?_
  clear hk; intro a hk
  refine plan_k hO.o14 hk (by omega) (by repeat' (first | exact far_nil _ | refine far_cons (by omega) ?_)) (v := .pointer (some ⟨g, j, none⟩)) (fun o ho w' hS => do_at ho (hk.at (t := b + 13) (by simp)) hj) ?_
  clear hk; intro a hk
  refine plan_end hO.o15 fun o ho hd hgd => ?_
  have g1 := hg.kept hb1
  have hw1 := hw.trans (hb1.mono (Nat.le_trans hB (Nat.le_of_lt hg.lt)))
  refine wp_store_cell hgd ho (by kernel_rfl) (hk.at (t := b + 14) (v := .pointer (some ⟨g, j, none⟩)) (by simp)) (hk.at (t := b + 12) (v := .int .u8 ((dv T p * 2 ^ s % 256 ||| dv T q : Nat) : Int)) (by simp)) rfl g1 (by rw [hcs]; exact hj) fun w2 g2 gr2 s2 => ?_
  rw [hd]
  exact h _ w2 ⟨hk.1, hk.2.1, fun x hx => hk.2.2 x (by simp at hx ⊢; rcases hx with rfl | rfl | rfl <;> simp)⟩ g2 (grown_then' hb1 gr2) (hw1.grown gr2 (Nat.le_trans hB (Nat.le_of_lt g1.lt)) (by rintro k ⟨⟩; exact hB))
structure regCOps (l : List Oper) (b p q s r j : Nat) : Prop where
  len : l.length = 17
  o0 : (l[0]?).map coreO = some (.move (.tmp 2), some b, none)
  o1 : (l[1]?).map coreO = some (.move (.tmp 0), some (b + 1), none)
  o2 : (l[2]?).map coreO = some (.indexAddr 22 (.tmp (b + 1)) (.const (.int .i64 (p : Int))), some (b + 2), none)
  o3 : (l[3]?).map coreO = some (.load 5 (.tmp (b + 2)), some (b + 3), none)
  o4 : (l[4]?).map coreO = some (.indexAddr 52 (.global 0) (.tmp (b + 3)), some (b + 4), none)
  o5 : (l[5]?).map coreO = some (.load 5 (.tmp (b + 4)), some (b + 5), none)
  o6 : ∃ uu, (l[6]?).map coreO = some (.binOp .shl 5 (.tmp (b + 5)) (.const (.int .u64 (s : Int))) uu, some (b + 6), none)
  o7 : (l[7]?).map coreO = some (.move (.tmp 0), some (b + 7), none)
  o8 : (l[8]?).map coreO = some (.indexAddr 22 (.tmp (b + 7)) (.const (.int .i64 (q : Int))), some (b + 8), none)
  o9 : (l[9]?).map coreO = some (.load 5 (.tmp (b + 8)), some (b + 9), none)
  o10 : (l[10]?).map coreO = some (.indexAddr 52 (.global 0) (.tmp (b + 9)), some (b + 10), none)
  o11 : (l[11]?).map coreO = some (.load 5 (.tmp (b + 10)), some (b + 11), none)
  o12 : ∃ uu, (l[12]?).map coreO = some (.binOp .shr 5 (.tmp (b + 11)) (.const (.int .u64 (r : Int))) uu, some (b + 12), none)
  o13 : ∃ uu, (l[13]?).map coreO = some (.binOp .or 5 (.tmp (b + 6)) (.tmp (b + 12)) uu, some (b + 13), none)
  o14 : (l[14]?).map coreO = some (.nilCheck (.tmp b), some (b + 14), none)
  o15 : (l[15]?).map coreO = some (.indexAddr 33 (.tmp (b + 14)) (.const (.int .i64 (j : Int))), some (b + 15), none)
  o16 : (l[16]?).map coreO = some (.store 5 (.tmp (b + 15)) (.tmp (b + 13)), none, none)
theorem regC_ok {Q : Exit → Act → World → Prop} {id : Nat} {l : List Oper} {a : Act} {w : World} {gv cap g b p q s r j : Nat} {T : List UInt8} {cs : List Value} {ty : TypeId} {B0 : Nat} {w0 : World} (hO : regCOps l b p q s r j) (hb7 : 7 ≤ b) (hb : b + 16 ≤ 520) (hp : p < 26) (hq : q < 26) (hs : s = 1 ∨ s = 2 ∨ s = 3 ∨ s = 4 ∨ s = 5 ∨ s = 6 ∨ s = 7) (hr : r = 1 ∨ r = 2 ∨ r = 3 ∨ r = 4 ∨ r = 5 ∨ r = 6 ∨ r = 7) (hj : j < 16)
    (hno : Region.noSelect l.toArray = true) (hok : planOk .any l.toArray (([(0, 0), (1, 0), (2, 0), (3, 0), (4, 0), (5, 0), (6, 0), (7, 0), (8, 0), (9, 0), (10, 0), (11, 0), (12, 0), (13, 0), (14, 0), (15, 0), (16, 2)].filter (·.2 == 0)).map (·.1)) [(0, 0), (1, 0), (2, 0), (3, 0), (4, 0), (5, 0), (6, 0), (7, 0), (8, 0), (9, 0), (10, 0), (11, 0), (12, 0), (13, 0), (14, 0), (15, 0), (16, 2)] (Array.replicate l.length false) = true) (hQ : ∀ c a d v w, Q (.panic c) (a.put d v) w → Q (.panic c) a w)
    (hk : Keeps 520 [(0, .slice (some ⟨gv, 0, none⟩) 26 cap), (2, .pointer (some ⟨g, 0, none⟩)), (6, .nilIface)] a) (hc : ∀ i, i < 26 → w.cell? ⟨gv, i, none⟩ = some (.int .u8 (B T i : Nat))) (hD : DTab w) (hg : Blk w g cs ty) (hcs : cs.length = 16) (hw : Below B0 w0 w) (hB : B0 ≤ g)
    (h : ∀ a' w', Keeps 520 [(0, .slice (some ⟨gv, 0, none⟩) 26 cap), (2, .pointer (some ⟨g, 0, none⟩)), (6, .nilIface)] a' → Blk w' g (cs.set j (.int .u8 ((dv T p * 2 ^ s % 256 ||| dv T q / 2 ^ r : Nat) : Int))) ty → w.grownBy w' (some g) → Below B0 w0 w' → Q .normal a' w') : (Code.region id l.toArray true).wp Tryd.prog Q a w := by
  refine region_plan2 (fun w' => Below w.heap.size w w') [(0, 0), (1, 0), (2, 0), (3, 0), (4, 0), (5, 0), (6, 0), (7, 0), (8, 0), (9, 0), (10, 0), (11, 0), (12, 0), (13, 0), (14, 0), (15, 0), (16, 2)] rfl hno hok (by rw [hO.len]; rfl) hQ (fun _ _ h => h) ?_
  intro OPS w1 hpW hb1
  clear hpW
  have hC : ∀ i, i < 26 → ∀ w', Below w.heap.size w w' → w'.cell? ⟨gv, i, none⟩ = some (.int .u8 (B T i : Nat)) := fun i hi w' hS => by
    have := hc i hi
    rw [hS.cell (World.block_lt_of_cell? w _ this)]
    exact this
  have hT : ∀ c, c < 256 → ∀ w', Below w.heap.size w w' → w'.cell? ⟨0, c, none⟩ = some (.int .u8 ((dec32 c : Nat) : Int)) := fun c hc' w' hS => (DTab.kept hD hS) c hc' 
  refine plan_k hO.o0 hk (by omega) (by repeat' (first | exact far_nil _ | refine far_cons (by omega) ?_)) (v := .pointer (some ⟨g, 0, none⟩)) (fun o ho w' hS => do_move ho (hk.at (t := 2) (by simp))) ?_
  clear hk; intro a hk
  refine plan_k hO.o1 hk (by omega) (by repeat' (first | exact far_nil _ | refine far_cons (by omega) ?_)) (v := .slice (some ⟨gv, 0, none⟩) 26 cap) (fun o ho w' hS => do_move ho (hk.at (t := 0) (by simp))) ?_
  clear hk; intro a hk
  refine plan_k hO.o2 hk (by omega) (by repeat' (first | exact far_nil _ | refine far_cons (by omega) ?_)) (v := .pointer (some ⟨gv, p, none⟩)) (fun o ho w' hS => (by have := still_index (S := fun _ => True) (b := gv) (off := 0) (n := 26) (c := cap) (i := p) ho Tryd.underlying22 (by kernel_rfl) (hk.at (t := b + 1) (by simp)) rfl hp w' trivial; rw [Nat.zero_add] at this; exact this)) ?_
  clear hk; intro a hk
  refine plan_k hO.o3 hk (by omega) (by repeat' (first | exact far_nil _ | refine far_cons (by omega) ?_)) (v := .int .u8 (B T p : Nat)) (fun o ho w' hS => do_load ho (hk.at (t := b + 2) (by simp)) (hC p hp w' hS)) ?_
  clear hk; intro a hk
  refine plan_k hO.o4 hk (by omega) (by repeat' (first | exact far_nil _ | refine far_cons (by omega) ?_)) (v := .pointer (some ⟨0, B T p, none⟩)) (fun o ho w' hS => do_tab ho (hk.at (t := b + 3) (by simp)) (B_lt T p)) ?_
  clear hk; intro a hk
  refine plan_k hO.o5 hk (by omega) (by repeat' (first | exact far_nil _ | refine far_cons (by omega) ?_)) (v := .int .u8 (dv T p : Nat)) (fun o ho w' hS => do_load ho (hk.at (t := b + 4) (by simp)) (hT (B T p) (B_lt T p) w' hS)) ?_
  clear hk; intro a hk
  obtain ⟨u6, e6⟩ := hO.o6
  refine plan_k e6 hk (by omega) (by repeat' (first | exact far_nil _ | refine far_cons (by omega) ?_)) (v := .int .u8 ((dv T p * 2 ^ s % 256) : Nat)) (fun o ho w' hS => do_shl hs rfl ho (hk.at (t := b + 5) (by simp))) ?_
  clear hk; intro a hk
  refine plan_k hO.o7 hk (by omega) (by repeat' (first | exact far_nil _ | refine far_cons (by omega) ?_)) (v := .slice (some ⟨gv, 0, none⟩) 26 cap) (fun o ho w' hS => do_move ho (hk.at (t := 0) (by simp))) ?_
  clear hk; intro a hk
  refine plan_k hO.o8 hk (by omega) (by repeat' (first | exact far_nil _ | refine far_cons (by omega) ?_)) (v := .pointer (some ⟨gv, q, none⟩)) (fun o ho w' hS => (by have := still_index (S := fun _ => True) (b := gv) (off := 0) (n := 26) (c := cap) (i := q) ho Tryd.underlying22 (by kernel_rfl) (hk.at (t := b + 7) (by simp)) rfl hq w' trivial; rw [Nat.zero_add] at this; exact this)) ?_
  clear hk; intro a hk
  refine plan_k hO.o9 hk (by omega) (by repeat' (first | exact far_nil _ | refine far_cons (by omega) ?_)) (v := .int .u8 (B T q : Nat)) (fun o ho w' hS => do_load ho (hk.at (t := b + 8) (by simp)) (hC q hq w' hS)) ?_
  clear hk; intro a hk
  refine plan_k hO.o10 hk (by omega) (by repeat' (first | exact far_nil _ | refine far_cons (by omega) ?_)) (v := .pointer (some ⟨0, B T q, none⟩)) (fun o ho w' hS => do_tab ho (hk.at (t := b + 9) (by simp)) (B_lt T q)) ?_
  clear hk; intro a hk
  refine plan_k hO.o11 hk (by omega) (by repeat' (first | exact far_nil _ | refine far_cons (by omega) ?_)) (v := .int .u8 (dv T q : Nat)) (fun o ho w' hS => do_load ho (hk.at (t := b + 10) (by simp)) (hT (B T q) (B_lt T q) w' hS)) ?_
  clear hk; intro a hk
  obtain ⟨u12, e12⟩ := hO.o12
  refine plan_k e12 hk (by omega) (by repeat' (first | exact far_nil _ | refine far_cons (by omega) ?_)) (v := .int .u8 ((dv T q / 2 ^ r) : Nat)) (fun o ho w' hS => do_shr hr rfl ho (hk.at (t := b + 11) (by simp))) ?_
  clear hk; intro a hk
  obtain ⟨u13, e13⟩ := hO.o13
  refine plan_k e13 hk (by omega) (by repeat' (first | exact far_nil _ | refine far_cons (by omega) ?_)) (v := .int .u8 (((dv T p * 2 ^ s % 256) ||| (dv T q / 2 ^ r)) : Nat)) (fun o ho w' hS => do_or ho (hk.at (t := b + 6) (by simp)) (hk.at (t := b + 12) (by simp)) (by first | exact dv_lt _ _ | exact Nat.mod_lt _ (by decide) | exact Nat.lt_of_le_of_lt (Nat.div_le_self _ _) (dv_lt _ _) | exact or_lt (Nat.mod_lt _ (by decide)) (Nat.mod_lt _ (by decide)) | exact or_lt (Nat.mod_lt _ (by decide)) (dv_lt _ _)) (by first | exact dv_lt _ _ | exact Nat.mod_lt _ (by decide) | exact Nat.lt_of_le_of_lt (Nat.div_le_self _ _) (dv_lt _ _) | exact or_lt (Nat.mod_lt _ (by decide)) (Nat.mod_lt _ (by decide)) | exact or_lt (Nat.mod_lt _ (by decide)) (dv_lt _ _))) ?_
  clear hk; intro a hk
  refine plan_k hO.o14 hk (by omega) (by repeat' (first | exact far_nil _ | refine far_cons (by omega) ?_)) (v := .pointer (some ⟨g, 0, none⟩)) (fun o ho w' hS => do_nil ho (hk.at (t := b) (by simp))) ?_
  clear hk; intro a hk
  refine plan_k hO.o15 hk (by omega) (by repeat' (first | exact far_nil _ | refine far_cons (by omega) ?_)) (v := .pointer (some ⟨g, j, none⟩)) (fun o ho w' hS => do_at ho (hk.at (t := b + 14) (by simp)) hj) ?_
  clear hk; intro a hk
  refine plan_end hO.o16 fun o ho hd hgd => ?_
  have g1 := hg.kept hb1
  have hw1 := hw.trans (hb1.mono (Nat.le_trans hB (Nat.le_of_lt hg.lt)))
  refine wp_store_cell hgd ho (by kernel_rfl) (hk.at (t := b + 15) (v := .pointer (some ⟨g, j, none⟩)) (by simp)) (hk.at (t := b + 13) (v := .int .u8 ((dv T p * 2 ^ s % 256 ||| dv T q / 2 ^ r : Nat) : Int)) (by simp)) rfl g1 (by rw [hcs]; exact hj) fun w2 g2 gr2 s2 => ?_
  rw [hd]
  exact h _ w2 ⟨hk.1, hk.2.1, fun x hx => hk.2.2 x (by simp at hx ⊢; rcases hx with rfl | rfl | rfl <;> simp)⟩ g2 (grown_then' hb1 gr2) (hw1.grown gr2 (Nat.le_trans hB (Nat.le_of_lt g1.lt)) (by rintro k ⟨⟩; exact hB))
structure regBOps (l : List Oper) (b p q r s s2 u j : Nat) : Prop where
  len : l.length = 24
  o0 : (l[0]?).map coreO = some (.move (.tmp 2), some b, none)
  o1 : (l[1]?).map coreO = some (.move (.tmp 0), some (b + 1), none)
  o2 : (l[2]?).map coreO = some (.indexAddr 22 (.tmp (b + 1)) (.const (.int .i64 (p : Int))), some (b + 2), none)
  o3 : (l[3]?).map coreO = some (.load 5 (.tmp (b + 2)), some (b + 3), none)
  o4 : (l[4]?).map coreO = some (.indexAddr 52 (.global 0) (.tmp (b + 3)), some (b + 4), none)
  o5 : (l[5]?).map coreO = some (.load 5 (.tmp (b + 4)), some (b + 5), none)
  o6 : ∃ uu, (l[6]?).map coreO = some (.binOp .shl 5 (.tmp (b + 5)) (.const (.int .u64 (s : Int))) uu, some (b + 6), none)
  o7 : (l[7]?).map coreO = some (.move (.tmp 0), some (b + 7), none)
  o8 : (l[8]?).map coreO = some (.indexAddr 22 (.tmp (b + 7)) (.const (.int .i64 (q : Int))), some (b + 8), none)
  o9 : (l[9]?).map coreO = some (.load 5 (.tmp (b + 8)), some (b + 9), none)
  o10 : (l[10]?).map coreO = some (.indexAddr 52 (.global 0) (.tmp (b + 9)), some (b + 10), none)
  o11 : (l[11]?).map coreO = some (.load 5 (.tmp (b + 10)), some (b + 11), none)
  o12 : ∃ uu, (l[12]?).map coreO = some (.binOp .shl 5 (.tmp (b + 11)) (.const (.int .u64 (s2 : Int))) uu, some (b + 12), none)
  o13 : ∃ uu, (l[13]?).map coreO = some (.binOp .or 5 (.tmp (b + 6)) (.tmp (b + 12)) uu, some (b + 13), none)
  o14 : (l[14]?).map coreO = some (.move (.tmp 0), some (b + 14), none)
  o15 : (l[15]?).map coreO = some (.indexAddr 22 (.tmp (b + 14)) (.const (.int .i64 (r : Int))), some (b + 15), none)
  o16 : (l[16]?).map coreO = some (.load 5 (.tmp (b + 15)), some (b + 16), none)
  o17 : (l[17]?).map coreO = some (.indexAddr 52 (.global 0) (.tmp (b + 16)), some (b + 17), none)
  o18 : (l[18]?).map coreO = some (.load 5 (.tmp (b + 17)), some (b + 18), none)
  o19 : ∃ uu, (l[19]?).map coreO = some (.binOp .shr 5 (.tmp (b + 18)) (.const (.int .u64 (u : Int))) uu, some (b + 19), none)
  o20 : ∃ uu, (l[20]?).map coreO = some (.binOp .or 5 (.tmp (b + 13)) (.tmp (b + 19)) uu, some (b + 20), none)
  o21 : (l[21]?).map coreO = some (.nilCheck (.tmp b), some (b + 21), none)
  o22 : (l[22]?).map coreO = some (.indexAddr 33 (.tmp (b + 21)) (.const (.int .i64 (j : Int))), some (b + 22), none)
  o23 : (l[23]?).map coreO = some (.store 5 (.tmp (b + 22)) (.tmp (b + 20)), none, none)
theorem regB_ok {Q : Exit → Act → World → Prop} {id : Nat} {l : List Oper} {a : Act} {w : World} {gv cap g b p q r s s2 u j : Nat} {T : List UInt8} {cs : List Value} {ty : TypeId} {B0 : Nat} {w0 : World} (hO : regBOps l b p q r s s2 u j) (hb7 : 7 ≤ b) (hb : b + 23 ≤ 520) (hp : p < 26) (hq : q < 26) (hr : r < 26) (hs : s = 1 ∨ s = 2 ∨ s = 3 ∨ s = 4 ∨ s = 5 ∨ s = 6 ∨ s = 7) (hs2 : s2 = 1 ∨ s2 = 2 ∨ s2 = 3 ∨ s2 = 4 ∨ s2 = 5 ∨ s2 = 6 ∨ s2 = 7) (hu : u = 1 ∨ u = 2 ∨ u = 3 ∨ u = 4 ∨ u = 5 ∨ u = 6 ∨ u = 7) (hj : j < 16)
    (hno : Region.noSelect l.toArray = true) (hok : planOk .any l.toArray (([(0, 0), (1, 0), (2, 0), (3, 0), (4, 0), (5, 0), (6, 0), (7, 0), (8, 0), (9, 0), (10, 0), (11, 0), (12, 0), (13, 0), (14, 0), (15, 0), (16, 0), (17, 0), (18, 0), (19, 0), (20, 0), (21, 0), (22, 0), (23, 2)].filter (·.2 == 0)).map (·.1)) [(0, 0), (1, 0), (2, 0), (3, 0), (4, 0), (5, 0), (6, 0), (7, 0), (8, 0), (9, 0), (10, 0), (11, 0), (12, 0), (13, 0), (14, 0), (15, 0), (16, 0), (17, 0), (18, 0), (19, 0), (20, 0), (21, 0), (22, 0), (23, 2)] (Array.replicate l.length false) = true) (hQ : ∀ c a d v w, Q (.panic c) (a.put d v) w → Q (.panic c) a w)
    (hk : Keeps 520 [(0, .slice (some ⟨gv, 0, none⟩) 26 cap), (2, .pointer (some ⟨g, 0, none⟩)), (6, .nilIface)] a) (hc : ∀ i, i < 26 → w.cell? ⟨gv, i, none⟩ = some (.int .u8 (B T i : Nat))) (hD : DTab w) (hg : Blk w g cs ty) (hcs : cs.length = 16) (hw : Below B0 w0 w) (hB : B0 ≤ g)
    (h : ∀ a' w', Keeps 520 [(0, .slice (some ⟨gv, 0, none⟩) 26 cap), (2, .pointer (some ⟨g, 0, none⟩)), (6, .nilIface)] a' → Blk w' g (cs.set j (.int .u8 ((dv T p * 2 ^ s % 256 ||| dv T q * 2 ^ s2 % 256 ||| dv T r / 2 ^ u : Nat) : Int))) ty → w.grownBy w' (some g) → Below B0 w0 w' → Q .normal a' w') : (Code.region id l.toArray true).wp Tryd.prog Q a w := by
  refine region_plan2 (fun w' => Below w.heap.size w w') [(0, 0), (1, 0), (2, 0), (3, 0), (4, 0), (5, 0), (6, 0), (7, 0), (8, 0), (9, 0), (10, 0), (11, 0), (12, 0), (13, 0), (14, 0), (15, 0), (16, 0), (17, 0), (18, 0), (19, 0), (20, 0), (21, 0), (22, 0), (23, 2)] rfl hno hok (by rw [hO.len]; rfl) hQ (fun _ _ h => h) ?_
  intro OPS w1 hpW hb1
  clear hpW
  have hC : ∀ i, i < 26 → ∀ w', Below w.heap.size w w' → w'.cell? ⟨gv, i, none⟩ = some (.int .u8 (B T i : Nat)) := fun i hi w' hS => by
    have := hc i hi
    rw [hS.cell (World.block_lt_of_cell? w _ this)]
    exact this
  have hT : ∀ c, c < 256 → ∀ w', Below w.heap.size w w' → w'.cell? ⟨0, c, none⟩ = some (.int .u8 ((dec32 c : Nat) : Int)) := fun c hc' w' hS => (DTab.kept hD hS) c hc' 
  refine plan_k hO.o0 hk (by omega) (by repeat' (first | exact far_nil _ | refine far_cons (by omega) ?_)) (v := .pointer (some ⟨g, 0, none⟩)) (fun o ho w' hS => do_move ho (hk.at (t := 2) (by simp))) ?_
  clear hk; intro a hk
  refine plan_k hO.o1 hk (by omega) (by repeat' (first | exact far_nil _ | refine far_cons (by omega) ?_)) (v := .slice (some ⟨gv, 0, none⟩) 26 cap) (fun o ho w' hS => do_move ho (hk.at (t := 0) (by simp))) ?_
  clear hk; intro a hk
  refine plan_k hO.o2 hk (by omega) (by repeat' (first | exact far_nil _ | refine far_cons (by omega) ?_)) (v := .pointer (some ⟨gv, p, none⟩)) (fun o ho w' hS => (by have := still_index (S := fun _ => True) (b := gv) (off := 0) (n := 26) (c := cap) (i := p) ho Tryd.underlying22 (by kernel_rfl) (hk.at (t := b + 1) (by simp)) rfl hp w' trivial; rw [Nat.zero_add] at this; exact this)) ?_
  clear hk; intro a hk
  refine plan_k hO.o3 hk (by omega) (by repeat' (first | exact far_nil _ | refine far_cons (by omega) ?_)) (v := .int .u8 (B T p : Nat)) (fun o ho w' hS => do_load ho (hk.at (t := b + 2) (by simp)) (hC p hp w' hS)) ?_
  clear hk; intro a hk
  refine plan_k hO.o4 hk (by omega) (by repeat' (first | exact far_nil _ | refine far_cons (by omega) ?_)) (v := .pointer (some ⟨0, B T p, none⟩)) (fun o ho w' hS => do_tab ho (hk.at (t := b + 3) (by simp)) (B_lt T p)) ?_
  clear hk; intro a hk
  refine plan_k hO.o5 hk (by omega) (by repeat' (first | exact far_nil _ | refine far_cons (by omega) ?_)) (v := .int .u8 (dv T p : Nat)) (fun o ho w' hS => do_load ho (hk.at (t := b + 4) (by simp)) (hT (B T p) (B_lt T p) w' hS)) ?_
  clear hk; intro a hk
  obtain ⟨u6, e6⟩ := hO.o6
  refine plan_k e6 hk (by omega) (by repeat' (first | exact far_nil _ | refine far_cons (by omega) ?_)) (v := .int .u8 ((dv T p * 2 ^ s % 256) : Nat)) (fun o ho w' hS => do_shl hs rfl ho (hk.at (t := b + 5) (by simp))) ?_
  clear hk; intro a hk
  refine plan_k hO.o7 hk (by omega) (by repeat' (first | exact far_nil _ | refine far_cons (by omega) ?_)) (v := .slice (some ⟨gv, 0, none⟩) 26 cap) (fun o ho w' hS => do_move ho (hk.at (t := 0) (by simp))) ?_
  clear hk; intro a hk
  refine plan_k hO.o8 hk (by omega) (by repeat' (first | exact far_nil _ | refine far_cons (by omega) ?_)) (v := .pointer (some ⟨gv, q, none⟩)) (fun o ho w' hS => (by have := still_index (S := fun _ => True) (b := gv) (off := 0) (n := 26) (c := cap) (i := q) ho Tryd.underlying22 (by kernel_rfl) (hk.at (t := b + 7) (by simp)) rfl hq w' trivial; rw [Nat.zero_add] at this; exact this)) ?_
  clear hk; intro a hk
  refine plan_k hO.o9 hk (by omega) (by repeat' (first | exact far_nil _ | refine far_cons (by omega) ?_)) (v := .int .u8 (B T q : Nat)) (fun o ho w' hS => do_load ho (hk.at (t := b + 8) (by simp)) (hC q hq w' hS)) ?_
  clear hk; intro a hk
  refine plan_k hO.o10 hk (by omega) (by repeat' (first | exact far_nil _ | refine far_cons (by omega) ?_)) (v := .pointer (some ⟨0, B T q, none⟩)) (fun o ho w' hS => do_tab ho (hk.at (t := b + 9) (by simp)) (B_lt T q)) ?_
  clear hk; intro a hk
  refine plan_k hO.o11 hk (by omega) (by repeat' (first | exact far_nil _ | refine far_cons (by omega) ?_)) (v := .int .u8 (dv T q : Nat)) (fun o ho w' hS => do_load ho (hk.at (t := b + 10) (by simp)) (hT (B T q) (B_lt T q) w' hS)) ?_
  clear hk; intro a hk
  obtain ⟨u12, e12⟩ := hO.o12
  refine plan_k e12 hk (by omega) (by repeat' (first | exact far_nil _ | refine far_cons (by omega) ?_)) (v := .int .u8 ((dv T q * 2 ^ s2 % 256) : Nat)) (fun o ho w' hS => do_shl hs2 rfl ho (hk.at (t := b + 11) (by simp))) ?_
  clear hk; intro a hk
  obtain ⟨u13, e13⟩ := hO.o13
  refine plan_k e13 hk (by omega) (by repeat' (first | exact far_nil _ | refine far_cons (by omega) ?_)) (v := .int .u8 (((dv T p * 2 ^ s % 256) ||| (dv T q * 2 ^ s2 % 256)) : Nat)) (fun o ho w' hS => do_or ho (hk.at (t := b + 6) (by simp)) (hk.at (t := b + 12) (by simp)) (by first | exact dv_lt _ _ | exact Nat.mod_lt _ (by decide) | exact Nat.lt_of_le_of_lt (Nat.div_le_self _ _) (dv_lt _ _) | exact or_lt (Nat.mod_lt _ (by decide)) (Nat.mod_lt _ (by decide)) | exact or_lt (Nat.mod_lt _ (by decide)) (dv_lt _ _)) (by first | exact dv_lt _ _ | exact Nat.mod_lt _ (by decide) | exact Nat.lt_of_le_of_lt (Nat.div_le_self _ _) (dv_lt _ _) | exact or_lt (Nat.mod_lt _ (by decide)) (Nat.mod_lt _ (by decide)) | exact or_lt (Nat.mod_lt _ (by decide)) (dv_lt _ _))) ?_
  clear hk; intro a hk
  refine plan_k hO.o14 hk (by omega) (by repeat' (first | exact far_nil _ | refine far_cons (by omega) ?_)) (v := .slice (some ⟨gv, 0, none⟩) 26 cap) (fun o ho w' hS => do_move ho (hk.at (t := 0) (by simp))) ?_
  clear hk; intro a hk
  refine plan_k hO.o15 hk (by omega) (by repeat' (first | exact far_nil _ | refine far_cons (by omega) ?_)) (v := .pointer (some ⟨gv, r, none⟩)) (fun o ho w' hS => (by have := still_index (S := fun _ => True) (b := gv) (off := 0) (n := 26) (c := cap) (i := r) ho Tryd.underlying22 (by kernel_rfl) (hk.at (t := b + 14) (by simp)) rfl hr w' trivial; rw [Nat.zero_add] at this; exact this)) ?_
  clear hk; intro a hk
  refine plan_k hO.o16 hk (by omega) (by repeat' (first | exact far_nil _ | refine far_cons (by omega) ?_)) (v := .int .u8 (B T r : Nat)) (fun o ho w' hS => do_load ho (hk.at (t := b + 15) (by simp)) (hC r hr w' hS)) ?_
  clear hk; intro a hk
  refine plan_k hO.o17 hk (by omega) (by repeat' (first | exact far_nil _ | refine far_cons (by omega) ?_)) (v := .pointer (some ⟨0, B T r, none⟩)) (fun o ho w' hS => do_tab ho (hk.at (t := b + 16) (by simp)) (B_lt T r)) ?_
  clear hk; intro a hk
  refine plan_k hO.o18 hk (by omega) (by repeat' (first | exact far_nil _ | refine far_cons (by omega) ?_)) (v := .int .u8 (dv T r : Nat)) (fun o ho w' hS => do_load ho (hk.at (t := b + 17) (by simp)) (hT (B T r) (B_lt T r) w' hS)) ?_
  clear hk; intro a hk
  obtain ⟨u19, e19⟩ := hO.o19
  refine plan_k e19 hk (by omega) (by repeat' (first | exact far_nil _ | refine far_cons (by omega) ?_)) (v := .int .u8 ((dv T r / 2 ^ u) : Nat)) (fun o ho w' hS => do_shr hu rfl ho (hk.at (t := b + 18) (by simp))) ?_
  clear hk; intro a hk
  obtain ⟨u20, e20⟩ := hO.o20
  refine plan_k e20 hk (by omega) (by repeat' (first | exact far_nil _ | refine far_cons (by omega) ?_)) (v := .int .u8 ((((dv T p * 2 ^ s % 256) ||| (dv T q * 2 ^ s2 % 256)) ||| (dv T r / 2 ^ u)) : Nat)) (fun o ho w' hS => do_or ho (hk.at (t := b + 13) (by simp)) (hk.at (t := b + 19) (by simp)) (by first | exact dv_lt _ _ | exact Nat.mod_lt _ (by decide) | exact Nat.lt_of_le_of_lt (Nat.div_le_self _ _) (dv_lt _ _) | exact or_lt (Nat.mod_lt _ (by decide)) (Nat.mod_lt _ (by decide)) | exact or_lt (Nat.mod_lt _ (by decide)) (dv_lt _ _)) (by first | exact dv_lt _ _ | exact Nat.mod_lt _ (by decide) | exact Nat.lt_of_le_of_lt (Nat.div_le_self _ _) (dv_lt _ _) | exact or_lt (Nat.mod_lt _ (by decide)) (Nat.mod_lt _ (by decide)) | exact or_lt (Nat.mod_lt _ (by decide)) (dv_lt _ _))) ?_
  clear hk; intro a hk
  refine plan_k hO.o21 hk (by omega) (by repeat' (first | exact far_nil _ | refine far_cons (by omega) ?_)) (v := .pointer (some ⟨g, 0, none⟩)) (fun o ho w' hS => do_nil ho (hk.at (t := b) (by simp))) ?_
  clear hk; intro a hk
  refine plan_k hO.o22 hk (by omega) (by repeat' (first | exact far_nil _ | refine far_cons (by omega) ?_)) (v := .pointer (some ⟨g, j, none⟩)) (fun o ho w' hS => do_at ho (hk.at (t := b + 21) (by simp)) hj) ?_
  clear hk; intro a hk
  refine plan_end hO.o23 fun o ho hd hgd => ?_
  have g1 := hg.kept hb1
  have hw1 := hw.trans (hb1.mono (Nat.le_trans hB (Nat.le_of_lt hg.lt)))
  refine wp_store_cell hgd ho (by kernel_rfl) (hk.at (t := b + 22) (v := .pointer (some ⟨g, j, none⟩)) (by simp)) (hk.at (t := b + 20) (v := .int .u8 ((dv T p * 2 ^ s % 256 ||| dv T q * 2 ^ s2 % 256 ||| dv T r / 2 ^ u : Nat) : Int)) (by simp)) rfl g1 (by rw [hcs]; exact hj) fun w2 g2 gr2 s2 => ?_
  rw [hd]
  exact h _ w2 ⟨hk.1, hk.2.1, fun x hx => hk.2.2 x (by simp at hx ⊢; rcases hx with rfl | rfl | rfl <;> simp)⟩ g2 (grown_then' hb1 gr2) (hw1.grown gr2 (Nat.le_trans hB (Nat.le_of_lt g1.lt)) (by rintro k ⟨⟩; exact hB))
end Go.Proofs.YtcojcohipmoopaaDoor
