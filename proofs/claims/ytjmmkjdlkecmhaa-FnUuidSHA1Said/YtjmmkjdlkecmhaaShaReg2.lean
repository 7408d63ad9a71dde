/- SHA-1: the regions of the block function outside its rounds, over an abstract frame. -/
import Derived.Test.YtjmmkjdlkecmhaaShaReg
namespace Go.Proofs.Ytjmmkjdlkecmhaa
open Go.RowKit
set_option linter.unusedVariables false
set_option linter.unusedSimpArgs false
/-- The tail of a slice: 'x[i:]', whatever room is left. -/
theorem still_slice_tail {P : Program} {S : World → Prop} {o : Oper} {a : Act} {t e : TypeId} {x y : Operand} (ho : o.op = .slice t x (some y) none none) (hu : P.underlying t = some (.slice e)) (hs : (P.info? e).map (·.size) = some 1)
    {b off n c k : Nat} (hx : a.eval x = .slice (some ⟨b, off, none⟩) n c) {yi : Int} (hy : a.eval y = .int .i64 yi) (hyk : yi = (k : Int)) (hk : k ≤ n) (hc : n ≤ c) : ∀ w', S w' → (execOp a.eval o).run P w' = .ok (.value (.slice (some ⟨b, tailOff c k off, none⟩) (n - k) (c - k))) w' := by
  intro w' _
  subst hyk
  unfold tailOff
  cases hq : P.info? e with
  | none => simp [hq] at hs
  | some inf =>
    have hs1 : inf.size = 1 := by simpa [hq] using hs
    unfold execOp
    simp [ho, hx, hy, Instr.sliceAt, run_underlying hu, Instr.slice, Instr.sliceBounds, Instr.sliceBound, asIntOf, sizeOf, typeInfo, hq, Result.andThen, hk, hs1, Addr.add]
    split
    · rfl
    · by_cases h0 : k = 0
      · subst h0; simp
      · simp [h0]
theorem Rd.tailS {w : World} {b off : Nat} {bs : List UInt8} {c k : Nat} (h : Rd w (some ⟨b, off, none⟩) bs) (hc : bs.length ≤ c) : Rd w (some ⟨b, tailOff c k off, none⟩) (bs.drop k) := by
  refine ⟨by rw [List.length_drop]; have := h.1; omega, ?_⟩
  by_cases hk : bs.length ≤ k
  · exact .inl (List.drop_of_length_le hk)
  · rcases h.2 with rfl | ⟨b', o', he, hcell⟩
    · simp at hk
    · obtain ⟨rfl, rfl⟩ : b = b' ∧ off = o' := by simpa using he
      rw [tailOff_lt (by omega)]
      refine .inr ⟨b, off + k, rfl, fun i hi => ?_⟩
      rw [List.length_drop] at hi
      rw [Nat.add_assoc, hcell (k + i) (by omega)]
      simp [B, List.getElem?_drop]
def hcells (h : Hs) : List Value := [.int .u32 h.a, .int .u32 h.b, .int .u32 h.c, .int .u32 h.d, .int .u32 h.e]

structure Rg1 (l : List Oper) : Prop where
  len : l.length = 30
  o0 : (l[0]?).map coreO = some (.move (.tmp 0), (some 32), none)
  o1 : (l[1]?).map coreO = some (.nilCheck (.tmp 32), (some 33), none)
  o2 : (l[2]?).map coreO = some (.fieldAddr 48 (.tmp 33) 0, (some 34), none)
  o3 : (l[3]?).map coreO = some (.indexAddr 44 (.tmp 34) (.const (.int .i64 ((0 : Nat) : Int))), (some 35), none)
  o4 : (l[4]?).map coreO = some (.load 43 (.tmp 35), (some 36), none)
  o5 : (l[5]?).map coreO = some (.move (.tmp 0), (some 37), none)
  o6 : (l[6]?).map coreO = some (.nilCheck (.tmp 37), (some 38), none)
  o7 : (l[7]?).map coreO = some (.fieldAddr 48 (.tmp 38) 0, (some 39), none)
  o8 : (l[8]?).map coreO = some (.indexAddr 44 (.tmp 39) (.const (.int .i64 ((1 : Nat) : Int))), (some 40), none)
  o9 : (l[9]?).map coreO = some (.load 43 (.tmp 40), (some 41), none)
  o10 : (l[10]?).map coreO = some (.move (.tmp 0), (some 42), none)
  o11 : (l[11]?).map coreO = some (.nilCheck (.tmp 42), (some 43), none)
  o12 : (l[12]?).map coreO = some (.fieldAddr 48 (.tmp 43) 0, (some 44), none)
  o13 : (l[13]?).map coreO = some (.indexAddr 44 (.tmp 44) (.const (.int .i64 ((2 : Nat) : Int))), (some 45), none)
  o14 : (l[14]?).map coreO = some (.load 43 (.tmp 45), (some 46), none)
  o15 : (l[15]?).map coreO = some (.move (.tmp 0), (some 47), none)
  o16 : (l[16]?).map coreO = some (.nilCheck (.tmp 47), (some 48), none)
  o17 : (l[17]?).map coreO = some (.fieldAddr 48 (.tmp 48) 0, (some 49), none)
  o18 : (l[18]?).map coreO = some (.indexAddr 44 (.tmp 49) (.const (.int .i64 ((3 : Nat) : Int))), (some 50), none)
  o19 : (l[19]?).map coreO = some (.load 43 (.tmp 50), (some 51), none)
  o20 : (l[20]?).map coreO = some (.move (.tmp 0), (some 52), none)
  o21 : (l[21]?).map coreO = some (.nilCheck (.tmp 52), (some 53), none)
  o22 : (l[22]?).map coreO = some (.fieldAddr 48 (.tmp 53) 0, (some 54), none)
  o23 : (l[23]?).map coreO = some (.indexAddr 44 (.tmp 54) (.const (.int .i64 ((4 : Nat) : Int))), (some 55), none)
  o24 : (l[24]?).map coreO = some (.load 43 (.tmp 55), (some 56), none)
  o25 : (l[25]?).map coreO = some (.assign (.tmp 36), (some 5), none)
  o26 : (l[26]?).map coreO = some (.assign (.tmp 41), (some 6), none)
  o27 : (l[27]?).map coreO = some (.assign (.tmp 46), (some 7), none)
  o28 : (l[28]?).map coreO = some (.assign (.tmp 51), (some 8), none)
  o29 : (l[29]?).map coreO = some (.assign (.tmp 56), (some 9), none)
  ns : Region.noSelect l.toArray = true
  ok : planOk .any l.toArray (([(0, 0), (1, 0), (2, 0), (3, 0), (4, 0), (5, 0), (6, 0), (7, 0), (8, 0), (9, 0), (10, 0), (11, 0), (12, 0), (13, 0), (14, 0), (15, 0), (16, 0), (17, 0), (18, 0), (19, 0), (20, 0), (21, 0), (22, 0), (23, 0), (24, 0), (25, 0), (26, 0), (27, 0), (28, 0), (29, 0)].filter (·.2 == 0)).map (·.1)) [(0, 0), (1, 0), (2, 0), (3, 0), (4, 0), (5, 0), (6, 0), (7, 0), (8, 0), (9, 0), (10, 0), (11, 0), (12, 0), (13, 0), (14, 0), (15, 0), (16, 0), (17, 0), (18, 0), (19, 0), (20, 0), (21, 0), (22, 0), (23, 0), (24, 0), (25, 0), (26, 0), (27, 0), (28, 0), (29, 0)] (Array.replicate l.length false) = true
theorem Rg1_ok {Q : Exit → Act → World → Prop} {id : Nat} {l : List Oper} {a : Act} {w : World} {g pn pc : Nat} {pa : Option Addr} {hh : Hs} {more : List Value} {t : TypeId} {gw : Nat} (hO : Rg1 l) (hg : Blk w g (hcells hh ++ more) t) (hQ : ∀ c a d v w, Q (.panic c) (a.put d v) w → Q (.panic c) a w) (hk : Keeps 397 ((4, .pointer (some ⟨gw, 0, none⟩)) :: (1, .slice pa pn pc) :: (0, .pointer (some ⟨g, 0, none⟩)) :: []) a)
    (h : ∀ a' w', w'.heap = w.heap → Below w.heap.size w w' → Keeps 397 ((4, .pointer (some ⟨gw, 0, none⟩)) :: (1, .slice pa pn pc) :: (0, .pointer (some ⟨g, 0, none⟩)) :: (5, .int .u32 (hh.a)) :: (6, .int .u32 (hh.b)) :: (7, .int .u32 (hh.c)) :: (8, .int .u32 (hh.d)) :: (9, .int .u32 (hh.e)) :: []) a' → Q .normal a' w') : (Code.region id l.toArray true).wp Try.prog Q a w := by
  refine region_plan2 (fun w' => Below w.heap.size w w') [(0, 0), (1, 0), (2, 0), (3, 0), (4, 0), (5, 0), (6, 0), (7, 0), (8, 0), (9, 0), (10, 0), (11, 0), (12, 0), (13, 0), (14, 0), (15, 0), (16, 0), (17, 0), (18, 0), (19, 0), (20, 0), (21, 0), (22, 0), (23, 0), (24, 0), (25, 0), (26, 0), (27, 0), (28, 0), (29, 0)] rfl hO.ns hO.ok (by rw [hO.len]; rfl) hQ (fun _ _ h => h) ?_
  intro OPS w1 hpW hb1
  have hLHa : ∀ w', Below w.heap.size w w' → w'.cell? ⟨g, 0, none⟩ = some (.int .u32 hh.a) := fun w' hS => by rw [(hg.kept hS).cell]; rfl
  have hLHb : ∀ w', Below w.heap.size w w' → w'.cell? ⟨g, 1, none⟩ = some (.int .u32 hh.b) := fun w' hS => by rw [(hg.kept hS).cell]; rfl
  have hLHc : ∀ w', Below w.heap.size w w' → w'.cell? ⟨g, 2, none⟩ = some (.int .u32 hh.c) := fun w' hS => by rw [(hg.kept hS).cell]; rfl
  have hLHd : ∀ w', Below w.heap.size w w' → w'.cell? ⟨g, 3, none⟩ = some (.int .u32 hh.d) := fun w' hS => by rw [(hg.kept hS).cell]; rfl
  have hLHe : ∀ w', Below w.heap.size w w' → w'.cell? ⟨g, 4, none⟩ = some (.int .u32 hh.e) := fun w' hS => by rw [(hg.kept hS).cell]; rfl
  refine plan_k hO.o0 hk (by decide) (by repeat' (first | exact far_nil _ | refine far_cons (by decide) ?_)) (v := .pointer (some ⟨g, 0, none⟩)) (fun o ho w' hS => do_move ho (hk.at (List.mem_cons_of_mem _ (List.mem_cons_of_mem _ (List.mem_cons_self ..))))) ?_
  clear hk; intro a hk
  refine plan_k hO.o1 hk (by decide) (by repeat' (first | exact far_nil _ | refine far_cons (by decide) ?_)) (v := .pointer (some ⟨g, 0, none⟩)) (fun o ho w' hS => do_nil ho (hk.at (List.mem_cons_self ..))) ?_
  clear hk; intro a hk
  refine plan_k hO.o2 hk (by decide) (by repeat' (first | exact far_nil _ | refine far_cons (by decide) ?_)) (v := .pointer (some ⟨g, 0, none⟩)) (fun o ho w' hS => do_field0 ho (hk.at (List.mem_cons_self ..))) ?_
  clear hk; intro a hk
  refine plan_k hO.o3 hk (by decide) (by repeat' (first | exact far_nil _ | refine far_cons (by decide) ?_)) (v := .pointer (some ⟨g, 0, none⟩)) (fun o ho w' hS => do_hat ho (hk.at (List.mem_cons_self ..)) (by decide)) ?_
  clear hk; intro a hk
  refine plan_k hO.o4 hk (by decide) (by repeat' (first | exact far_nil _ | refine far_cons (by decide) ?_)) (v := .int .u32 (hh.a)) (fun o ho w' hS => do_load32 ho (hk.at (List.mem_cons_self ..)) (hLHa w' hS)) ?_
  clear hk; intro a hk
  refine plan_k hO.o5 hk (by decide) (by repeat' (first | exact far_nil _ | refine far_cons (by decide) ?_)) (v := .pointer (some ⟨g, 0, none⟩)) (fun o ho w' hS => do_move ho (hk.at (List.mem_cons_of_mem _ (List.mem_cons_of_mem _ (List.mem_cons_of_mem _ (List.mem_cons_of_mem _ (List.mem_cons_of_mem _ (List.mem_cons_of_mem _ (List.mem_cons_of_mem _ (List.mem_cons_self ..)))))))))) ?_
  clear hk; intro a hk
  refine plan_k hO.o6 hk (by decide) (by repeat' (first | exact far_nil _ | refine far_cons (by decide) ?_)) (v := .pointer (some ⟨g, 0, none⟩)) (fun o ho w' hS => do_nil ho (hk.at (List.mem_cons_self ..))) ?_
  clear hk; intro a hk
  refine plan_k hO.o7 hk (by decide) (by repeat' (first | exact far_nil _ | refine far_cons (by decide) ?_)) (v := .pointer (some ⟨g, 0, none⟩)) (fun o ho w' hS => do_field0 ho (hk.at (List.mem_cons_self ..))) ?_
  clear hk; intro a hk
  refine plan_k hO.o8 hk (by decide) (by repeat' (first | exact far_nil _ | refine far_cons (by decide) ?_)) (v := .pointer (some ⟨g, 1, none⟩)) (fun o ho w' hS => do_hat ho (hk.at (List.mem_cons_self ..)) (by decide)) ?_
  clear hk; intro a hk
  refine plan_k hO.o9 hk (by decide) (by repeat' (first | exact far_nil _ | refine far_cons (by decide) ?_)) (v := .int .u32 (hh.b)) (fun o ho w' hS => do_load32 ho (hk.at (List.mem_cons_self ..)) (hLHb w' hS)) ?_
  clear hk; intro a hk
  refine plan_k hO.o10 hk (by decide) (by repeat' (first | exact far_nil _ | refine far_cons (by decide) ?_)) (v := .pointer (some ⟨g, 0, none⟩)) (fun o ho w' hS => do_move ho (hk.at (List.mem_cons_of_mem _ (List.mem_cons_of_mem _ (List.mem_cons_of_mem _ (List.mem_cons_of_mem _ (List.mem_cons_of_mem _ (List.mem_cons_of_mem _ (List.mem_cons_of_mem _ (List.mem_cons_of_mem _ (List.mem_cons_of_mem _ (List.mem_cons_of_mem _ (List.mem_cons_of_mem _ (List.mem_cons_of_mem _ (List.mem_cons_self ..))))))))))))))) ?_
  clear hk; intro a hk
  refine plan_k hO.o11 hk (by decide) (by repeat' (first | exact far_nil _ | refine far_cons (by decide) ?_)) (v := .pointer (some ⟨g, 0, none⟩)) (fun o ho w' hS => do_nil ho (hk.at (List.mem_cons_self ..))) ?_
  clear hk; intro a hk
  refine plan_k hO.o12 hk (by decide) (by repeat' (first | exact far_nil _ | refine far_cons (by decide) ?_)) (v := .pointer (some ⟨g, 0, none⟩)) (fun o ho w' hS => do_field0 ho (hk.at (List.mem_cons_self ..))) ?_
  clear hk; intro a hk
  refine plan_k hO.o13 hk (by decide) (by repeat' (first | exact far_nil _ | refine far_cons (by decide) ?_)) (v := .pointer (some ⟨g, 2, none⟩)) (fun o ho w' hS => do_hat ho (hk.at (List.mem_cons_self ..)) (by decide)) ?_
  clear hk; intro a hk
  refine plan_k hO.o14 hk (by decide) (by repeat' (first | exact far_nil _ | refine far_cons (by decide) ?_)) (v := .int .u32 (hh.c)) (fun o ho w' hS => do_load32 ho (hk.at (List.mem_cons_self ..)) (hLHc w' hS)) ?_
  clear hk; intro a hk
  refine plan_k hO.o15 hk (by decide) (by repeat' (first | exact far_nil _ | refine far_cons (by decide) ?_)) (v := .pointer (some ⟨g, 0, none⟩)) (fun o ho w' hS => do_move ho (hk.at (List.mem_cons_of_mem _ (List.mem_cons_of_mem _ (List.mem_cons_of_mem _ (List.mem_cons_of_mem _ (List.mem_cons_of_mem _ (List.mem_cons_of_mem _ (List.mem_cons_of_mem _ (List.mem_cons_of_mem _ (List.mem_cons_of_mem _ (List.mem_cons_of_mem _ (List.mem_cons_of_mem _ (List.mem_cons_of_mem _ (List.mem_cons_of_mem _ (List.mem_cons_of_mem _ (List.mem_cons_of_mem _ (List.mem_cons_of_mem _ (List.mem_cons_of_mem _ (List.mem_cons_self ..)))))))))))))))))))) ?_
  clear hk; intro a hk
  refine plan_k hO.o16 hk (by decide) (by repeat' (first | exact far_nil _ | refine far_cons (by decide) ?_)) (v := .pointer (some ⟨g, 0, none⟩)) (fun o ho w' hS => do_nil ho (hk.at (List.mem_cons_self ..))) ?_
  clear hk; intro a hk
  refine plan_k hO.o17 hk (by decide) (by repeat' (first | exact far_nil _ | refine far_cons (by decide) ?_)) (v := .pointer (some ⟨g, 0, none⟩)) (fun o ho w' hS => do_field0 ho (hk.at (List.mem_cons_self ..))) ?_
  clear hk; intro a hk
  refine plan_k hO.o18 hk (by decide) (by repeat' (first | exact far_nil _ | refine far_cons (by decide) ?_)) (v := .pointer (some ⟨g, 3, none⟩)) (fun o ho w' hS => do_hat ho (hk.at (List.mem_cons_self ..)) (by decide)) ?_
  clear hk; intro a hk
  refine plan_k hO.o19 hk (by decide) (by repeat' (first | exact far_nil _ | refine far_cons (by decide) ?_)) (v := .int .u32 (hh.d)) (fun o ho w' hS => do_load32 ho (hk.at (List.mem_cons_self ..)) (hLHd w' hS)) ?_
  clear hk; intro a hk
  refine plan_k hO.o20 hk (by decide) (by repeat' (first | exact far_nil _ | refine far_cons (by decide) ?_)) (v := .pointer (some ⟨g, 0, none⟩)) (fun o ho w' hS => do_move ho (hk.at (List.mem_cons_of_mem _ (List.mem_cons_of_mem _ (List.mem_cons_of_mem _ (List.mem_cons_of_mem _ (List.mem_cons_of_mem _ (List.mem_cons_of_mem _ (List.mem_cons_of_mem _ (List.mem_cons_of_mem _ (List.mem_cons_of_mem _ (List.mem_cons_of_mem _ (List.mem_cons_of_mem _ (List.mem_cons_of_mem _ (List.mem_cons_of_mem _ (List.mem_cons_of_mem _ (List.mem_cons_of_mem _ (List.mem_cons_of_mem _ (List.mem_cons_of_mem _ (List.mem_cons_of_mem _ (List.mem_cons_of_mem _ (List.mem_cons_of_mem _ (List.mem_cons_of_mem _ (List.mem_cons_of_mem _ (List.mem_cons_self ..))))))))))))))))))))))))) ?_
  clear hk; intro a hk
  refine plan_k hO.o21 hk (by decide) (by repeat' (first | exact far_nil _ | refine far_cons (by decide) ?_)) (v := .pointer (some ⟨g, 0, none⟩)) (fun o ho w' hS => do_nil ho (hk.at (List.mem_cons_self ..))) ?_
  clear hk; intro a hk
  refine plan_k hO.o22 hk (by decide) (by repeat' (first | exact far_nil _ | refine far_cons (by decide) ?_)) (v := .pointer (some ⟨g, 0, none⟩)) (fun o ho w' hS => do_field0 ho (hk.at (List.mem_cons_self ..))) ?_
  clear hk; intro a hk
  refine plan_k hO.o23 hk (by decide) (by repeat' (first | exact far_nil _ | refine far_cons (by decide) ?_)) (v := .pointer (some ⟨g, 4, none⟩)) (fun o ho w' hS => do_hat ho (hk.at (List.mem_cons_self ..)) (by decide)) ?_
  clear hk; intro a hk
  refine plan_k hO.o24 hk (by decide) (by repeat' (first | exact far_nil _ | refine far_cons (by decide) ?_)) (v := .int .u32 (hh.e)) (fun o ho w' hS => do_load32 ho (hk.at (List.mem_cons_self ..)) (hLHe w' hS)) ?_
  clear hk; intro a hk
  refine plan_k hO.o25 hk (by decide) (by repeat' (first | exact far_nil _ | refine far_cons (by decide) ?_)) (v := .int .u32 (hh.a)) (fun o ho w' hS => do_assign ho (hk.at (List.mem_cons_of_mem _ (List.mem_cons_of_mem _ (List.mem_cons_of_mem _ (List.mem_cons_of_mem _ (List.mem_cons_of_mem _ (List.mem_cons_of_mem _ (List.mem_cons_of_mem _ (List.mem_cons_of_mem _ (List.mem_cons_of_mem _ (List.mem_cons_of_mem _ (List.mem_cons_of_mem _ (List.mem_cons_of_mem _ (List.mem_cons_of_mem _ (List.mem_cons_of_mem _ (List.mem_cons_of_mem _ (List.mem_cons_of_mem _ (List.mem_cons_of_mem _ (List.mem_cons_of_mem _ (List.mem_cons_of_mem _ (List.mem_cons_of_mem _ (List.mem_cons_self ..))))))))))))))))))))))) ?_
  clear hk; intro a hk
  refine plan_k hO.o26 hk (by decide) (by repeat' (first | exact far_nil _ | refine far_cons (by decide) ?_)) (v := .int .u32 (hh.b)) (fun o ho w' hS => do_assign ho (hk.at (List.mem_cons_of_mem _ (List.mem_cons_of_mem _ (List.mem_cons_of_mem _ (List.mem_cons_of_mem _ (List.mem_cons_of_mem _ (List.mem_cons_of_mem _ (List.mem_cons_of_mem _ (List.mem_cons_of_mem _ (List.mem_cons_of_mem _ (List.mem_cons_of_mem _ (List.mem_cons_of_mem _ (List.mem_cons_of_mem _ (List.mem_cons_of_mem _ (List.mem_cons_of_mem _ (List.mem_cons_of_mem _ (List.mem_cons_of_mem _ (List.mem_cons_self ..))))))))))))))))))) ?_
  clear hk; intro a hk
  refine plan_k hO.o27 hk (by decide) (by repeat' (first | exact far_nil _ | refine far_cons (by decide) ?_)) (v := .int .u32 (hh.c)) (fun o ho w' hS => do_assign ho (hk.at (List.mem_cons_of_mem _ (List.mem_cons_of_mem _ (List.mem_cons_of_mem _ (List.mem_cons_of_mem _ (List.mem_cons_of_mem _ (List.mem_cons_of_mem _ (List.mem_cons_of_mem _ (List.mem_cons_of_mem _ (List.mem_cons_of_mem _ (List.mem_cons_of_mem _ (List.mem_cons_of_mem _ (List.mem_cons_of_mem _ (List.mem_cons_self ..))))))))))))))) ?_
  clear hk; intro a hk
  refine plan_k hO.o28 hk (by decide) (by repeat' (first | exact far_nil _ | refine far_cons (by decide) ?_)) (v := .int .u32 (hh.d)) (fun o ho w' hS => do_assign ho (hk.at (List.mem_cons_of_mem _ (List.mem_cons_of_mem _ (List.mem_cons_of_mem _ (List.mem_cons_of_mem _ (List.mem_cons_of_mem _ (List.mem_cons_of_mem _ (List.mem_cons_of_mem _ (List.mem_cons_of_mem _ (List.mem_cons_self ..))))))))))) ?_
  clear hk; intro a hk
  refine plan_k hO.o29 hk (by decide) (by repeat' (first | exact far_nil _ | refine far_cons (by decide) ?_)) (v := .int .u32 (hh.e)) (fun o ho w' hS => do_assign ho (hk.at (List.mem_cons_of_mem _ (List.mem_cons_of_mem _ (List.mem_cons_of_mem _ (List.mem_cons_of_mem _ (List.mem_cons_self ..))))))) ?_
  clear hk; intro a hk
  refine plan_k0 ?_
  refine h _ _ hpW hb1 ?_
  refine ⟨hk.1, hk.2.1, fun x hx => hk.2.2 x ?_⟩
  rcases List.mem_cons.1 hx with rfl | hx
  · exact List.mem_cons_of_mem _ (List.mem_cons_of_mem _ (List.mem_cons_of_mem _ (List.mem_cons_of_mem _ (List.mem_cons_of_mem _ (List.mem_cons_of_mem _ (List.mem_cons_of_mem _ (List.mem_cons_of_mem _ (List.mem_cons_of_mem _ (List.mem_cons_of_mem _ (List.mem_cons_of_mem _ (List.mem_cons_of_mem _ (List.mem_cons_of_mem _ (List.mem_cons_of_mem _ (List.mem_cons_of_mem _ (List.mem_cons_of_mem _ (List.mem_cons_of_mem _ (List.mem_cons_of_mem _ (List.mem_cons_of_mem _ (List.mem_cons_of_mem _ (List.mem_cons_of_mem _ (List.mem_cons_of_mem _ (List.mem_cons_of_mem _ (List.mem_cons_of_mem _ (List.mem_cons_of_mem _ (List.mem_cons_of_mem _ (List.mem_cons_of_mem _ (List.mem_cons_of_mem _ (List.mem_cons_of_mem _ (List.mem_cons_of_mem _ (List.mem_cons_self ..))))))))))))))))))))))))))))))
  rcases List.mem_cons.1 hx with rfl | hx
  · exact List.mem_cons_of_mem _ (List.mem_cons_of_mem _ (List.mem_cons_of_mem _ (List.mem_cons_of_mem _ (List.mem_cons_of_mem _ (List.mem_cons_of_mem _ (List.mem_cons_of_mem _ (List.mem_cons_of_mem _ (List.mem_cons_of_mem _ (List.mem_cons_of_mem _ (List.mem_cons_of_mem _ (List.mem_cons_of_mem _ (List.mem_cons_of_mem _ (List.mem_cons_of_mem _ (List.mem_cons_of_mem _ (List.mem_cons_of_mem _ (List.mem_cons_of_mem _ (List.mem_cons_of_mem _ (List.mem_cons_of_mem _ (List.mem_cons_of_mem _ (List.mem_cons_of_mem _ (List.mem_cons_of_mem _ (List.mem_cons_of_mem _ (List.mem_cons_of_mem _ (List.mem_cons_of_mem _ (List.mem_cons_of_mem _ (List.mem_cons_of_mem _ (List.mem_cons_of_mem _ (List.mem_cons_of_mem _ (List.mem_cons_of_mem _ (List.mem_cons_of_mem _ (List.mem_cons_self ..)))))))))))))))))))))))))))))))
  rcases List.mem_cons.1 hx with rfl | hx
  · exact List.mem_cons_of_mem _ (List.mem_cons_of_mem _ (List.mem_cons_of_mem _ (List.mem_cons_of_mem _ (List.mem_cons_of_mem _ (List.mem_cons_of_mem _ (List.mem_cons_of_mem _ (List.mem_cons_of_mem _ (List.mem_cons_of_mem _ (List.mem_cons_of_mem _ (List.mem_cons_of_mem _ (List.mem_cons_of_mem _ (List.mem_cons_of_mem _ (List.mem_cons_of_mem _ (List.mem_cons_of_mem _ (List.mem_cons_of_mem _ (List.mem_cons_of_mem _ (List.mem_cons_of_mem _ (List.mem_cons_of_mem _ (List.mem_cons_of_mem _ (List.mem_cons_of_mem _ (List.mem_cons_of_mem _ (List.mem_cons_of_mem _ (List.mem_cons_of_mem _ (List.mem_cons_of_mem _ (List.mem_cons_of_mem _ (List.mem_cons_of_mem _ (List.mem_cons_of_mem _ (List.mem_cons_of_mem _ (List.mem_cons_of_mem _ (List.mem_cons_of_mem _ (List.mem_cons_of_mem _ (List.mem_cons_self ..))))))))))))))))))))))))))))))))
  rcases List.mem_cons.1 hx with rfl | hx
  · exact List.mem_cons_of_mem _ (List.mem_cons_of_mem _ (List.mem_cons_of_mem _ (List.mem_cons_of_mem _ (List.mem_cons_self ..))))
  rcases List.mem_cons.1 hx with rfl | hx
  · exact List.mem_cons_of_mem _ (List.mem_cons_of_mem _ (List.mem_cons_of_mem _ (List.mem_cons_self ..)))
  rcases List.mem_cons.1 hx with rfl | hx
  · exact List.mem_cons_of_mem _ (List.mem_cons_of_mem _ (List.mem_cons_self ..))
  rcases List.mem_cons.1 hx with rfl | hx
  · exact List.mem_cons_of_mem _ (List.mem_cons_self ..)
  rcases List.mem_cons.1 hx with rfl | hx
  · exact List.mem_cons_self ..
  cases hx
structure Rg2 (l : List Oper) : Prop where
  len : l.length = 3
  o0 : (l[0]?).map coreO = some (.move (.tmp 1), (some 57), none)
  o1 : (l[1]?).map coreO = some (.call { callee := .builtin .len, args := #[(.tmp 57)], argTypes := #[22] }, (some 58), none)
  o2 : (l[2]?).map coreO = some (.binOp .geq 3 (.tmp 58) (.const (.int .i64 ((64 : Nat) : Int))) 3, (some 59), none)
theorem Rg2_ok {Q : Exit → Act → World → Prop} {id : Nat} {l : List Oper} {a : Act} {w : World} {g gw pn pc : Nat} {pa : Option Addr} {hh : Hs} (hO : Rg2 l)  (hk : Keeps 397 ((4, .pointer (some ⟨gw, 0, none⟩)) :: (1, .slice pa pn pc) :: (0, .pointer (some ⟨g, 0, none⟩)) :: (5, .int .u32 (hh.a)) :: (6, .int .u32 (hh.b)) :: (7, .int .u32 (hh.c)) :: (8, .int .u32 (hh.d)) :: (9, .int .u32 (hh.e)) :: []) a)
    (h : ∀ a', Keeps 397 ((59, .bool (decide (64 ≤ pn))) :: (4, .pointer (some ⟨gw, 0, none⟩)) :: (1, .slice pa pn pc) :: (0, .pointer (some ⟨g, 0, none⟩)) :: (5, .int .u32 (hh.a)) :: (6, .int .u32 (hh.b)) :: (7, .int .u32 (hh.c)) :: (8, .int .u32 (hh.d)) :: (9, .int .u32 (hh.e)) :: []) a' → Q .normal a' w) : (Code.region id l.toArray false).wp Try.prog Q a w := by
  refine lit_start ?_
  refine drop_k hO.o0 hk (by decide) (by repeat' (first | exact far_nil _ | refine far_cons (by decide) ?_)) (v := .slice pa pn pc) (fun o ho => do_move ho (hk.at (List.mem_cons_of_mem _ (List.mem_cons_self ..)))) ?_
  clear hk; intro a hk
  refine drop_k hO.o1 hk (by decide) (by repeat' (first | exact far_nil _ | refine far_cons (by decide) ?_)) (v := .int .i64 ((pn : Nat) : Int)) (fun o ho => do_len ho (hk.at (List.mem_cons_self ..)) rfl) ?_
  clear hk; intro a hk
  refine drop_k hO.o2 hk (by decide) (by repeat' (first | exact far_nil _ | refine far_cons (by decide) ?_)) (v := .bool (decide (64 ≤ pn))) (fun o ho => do_igeq ho (hk.at (List.mem_cons_self ..))) ?_
  clear hk; intro a hk
  refine drop_end hO.len ?_
  refine h _ ?_
  refine ⟨hk.1, hk.2.1, fun x hx => hk.2.2 x ?_⟩
  rcases List.mem_cons.1 hx with rfl | hx
  · exact List.mem_cons_self ..
  rcases List.mem_cons.1 hx with rfl | hx
  · exact List.mem_cons_of_mem _ (List.mem_cons_of_mem _ (List.mem_cons_of_mem _ (List.mem_cons_self ..)))
  rcases List.mem_cons.1 hx with rfl | hx
  · exact List.mem_cons_of_mem _ (List.mem_cons_of_mem _ (List.mem_cons_of_mem _ (List.mem_cons_of_mem _ (List.mem_cons_self ..))))
  rcases List.mem_cons.1 hx with rfl | hx
  · exact List.mem_cons_of_mem _ (List.mem_cons_of_mem _ (List.mem_cons_of_mem _ (List.mem_cons_of_mem _ (List.mem_cons_of_mem _ (List.mem_cons_self ..)))))
  rcases List.mem_cons.1 hx with rfl | hx
  · exact List.mem_cons_of_mem _ (List.mem_cons_of_mem _ (List.mem_cons_of_mem _ (List.mem_cons_of_mem _ (List.mem_cons_of_mem _ (List.mem_cons_of_mem _ (List.mem_cons_self ..))))))
  rcases List.mem_cons.1 hx with rfl | hx
  · exact List.mem_cons_of_mem _ (List.mem_cons_of_mem _ (List.mem_cons_of_mem _ (List.mem_cons_of_mem _ (List.mem_cons_of_mem _ (List.mem_cons_of_mem _ (List.mem_cons_of_mem _ (List.mem_cons_self ..)))))))
  rcases List.mem_cons.1 hx with rfl | hx
  · exact List.mem_cons_of_mem _ (List.mem_cons_of_mem _ (List.mem_cons_of_mem _ (List.mem_cons_of_mem _ (List.mem_cons_of_mem _ (List.mem_cons_of_mem _ (List.mem_cons_of_mem _ (List.mem_cons_of_mem _ (List.mem_cons_self ..))))))))
  rcases List.mem_cons.1 hx with rfl | hx
  · exact List.mem_cons_of_mem _ (List.mem_cons_of_mem _ (List.mem_cons_of_mem _ (List.mem_cons_of_mem _ (List.mem_cons_of_mem _ (List.mem_cons_of_mem _ (List.mem_cons_of_mem _ (List.mem_cons_of_mem _ (List.mem_cons_of_mem _ (List.mem_cons_self ..)))))))))
  rcases List.mem_cons.1 hx with rfl | hx
  · exact List.mem_cons_of_mem _ (List.mem_cons_of_mem _ (List.mem_cons_of_mem _ (List.mem_cons_of_mem _ (List.mem_cons_of_mem _ (List.mem_cons_of_mem _ (List.mem_cons_of_mem _ (List.mem_cons_of_mem _ (List.mem_cons_of_mem _ (List.mem_cons_of_mem _ (List.mem_cons_self ..))))))))))
  cases hx
structure Rg3 (l : List Oper) : Prop where
  len : l.length = 1
  o0 : (l[0]?).map coreO = some (.assign (.const (.int .i64 ((0 : Nat) : Int))), (some 10), none)
theorem Rg3_ok {Q : Exit → Act → World → Prop} {id : Nat} {l : List Oper} {a : Act} {w : World} {g gw pn pc : Nat} {pa : Option Addr} {hh : Hs} (hO : Rg3 l)  (hk : Keeps 397 ((4, .pointer (some ⟨gw, 0, none⟩)) :: (1, .slice pa pn pc) :: (0, .pointer (some ⟨g, 0, none⟩)) :: (5, .int .u32 (hh.a)) :: (6, .int .u32 (hh.b)) :: (7, .int .u32 (hh.c)) :: (8, .int .u32 (hh.d)) :: (9, .int .u32 (hh.e)) :: []) a)
    (h : ∀ a', Keeps 397 ((4, .pointer (some ⟨gw, 0, none⟩)) :: (1, .slice pa pn pc) :: (0, .pointer (some ⟨g, 0, none⟩)) :: (5, .int .u32 (hh.a)) :: (6, .int .u32 (hh.b)) :: (7, .int .u32 (hh.c)) :: (8, .int .u32 (hh.d)) :: (9, .int .u32 (hh.e)) :: (10, .int .i64 ((0 : Nat) : Int)) :: []) a' → Q .normal a' w) : (Code.region id l.toArray false).wp Try.prog Q a w := by
  refine lit_start ?_
  refine drop_k hO.o0 hk (by decide) (by repeat' (first | exact far_nil _ | refine far_cons (by decide) ?_)) (v := .int .i64 ((0 : Nat) : Int)) (fun o ho => do_assign ho rfl) ?_
  clear hk; intro a hk
  refine drop_end hO.len ?_
  refine h _ ?_
  refine ⟨hk.1, hk.2.1, fun x hx => hk.2.2 x ?_⟩
  rcases List.mem_cons.1 hx with rfl | hx
  · exact List.mem_cons_of_mem _ (List.mem_cons_self ..)
  rcases List.mem_cons.1 hx with rfl | hx
  · exact List.mem_cons_of_mem _ (List.mem_cons_of_mem _ (List.mem_cons_self ..))
  rcases List.mem_cons.1 hx with rfl | hx
  · exact List.mem_cons_of_mem _ (List.mem_cons_of_mem _ (List.mem_cons_of_mem _ (List.mem_cons_self ..)))
  rcases List.mem_cons.1 hx with rfl | hx
  · exact List.mem_cons_of_mem _ (List.mem_cons_of_mem _ (List.mem_cons_of_mem _ (List.mem_cons_of_mem _ (List.mem_cons_self ..))))
  rcases List.mem_cons.1 hx with rfl | hx
  · exact List.mem_cons_of_mem _ (List.mem_cons_of_mem _ (List.mem_cons_of_mem _ (List.mem_cons_of_mem _ (List.mem_cons_of_mem _ (List.mem_cons_self ..)))))
  rcases List.mem_cons.1 hx with rfl | hx
  · exact List.mem_cons_of_mem _ (List.mem_cons_of_mem _ (List.mem_cons_of_mem _ (List.mem_cons_of_mem _ (List.mem_cons_of_mem _ (List.mem_cons_of_mem _ (List.mem_cons_self ..))))))
  rcases List.mem_cons.1 hx with rfl | hx
  · exact List.mem_cons_of_mem _ (List.mem_cons_of_mem _ (List.mem_cons_of_mem _ (List.mem_cons_of_mem _ (List.mem_cons_of_mem _ (List.mem_cons_of_mem _ (List.mem_cons_of_mem _ (List.mem_cons_self ..)))))))
  rcases List.mem_cons.1 hx with rfl | hx
  · exact List.mem_cons_of_mem _ (List.mem_cons_of_mem _ (List.mem_cons_of_mem _ (List.mem_cons_of_mem _ (List.mem_cons_of_mem _ (List.mem_cons_of_mem _ (List.mem_cons_of_mem _ (List.mem_cons_of_mem _ (List.mem_cons_self ..))))))))
  rcases List.mem_cons.1 hx with rfl | hx
  · exact List.mem_cons_self ..
  cases hx
structure Rg4 (l : List Oper) : Prop where
  len : l.length = 2
  o0 : (l[0]?).map coreO = some (.move (.tmp 10), (some 60), none)
  o1 : (l[1]?).map coreO = some (.binOp .lss 3 (.tmp 60) (.const (.int .i64 ((16 : Nat) : Int))) 3, (some 61), none)
theorem Rg4_ok {Q : Exit → Act → World → Prop} {id : Nat} {l : List Oper} {a : Act} {w : World} {g gw pn pc : Nat} {pa : Option Addr} {hh : Hs} {i : Nat} (hO : Rg4 l)  (hk : Keeps 397 ((4, .pointer (some ⟨gw, 0, none⟩)) :: (1, .slice pa pn pc) :: (0, .pointer (some ⟨g, 0, none⟩)) :: (5, .int .u32 (hh.a)) :: (6, .int .u32 (hh.b)) :: (7, .int .u32 (hh.c)) :: (8, .int .u32 (hh.d)) :: (9, .int .u32 (hh.e)) :: (10, .int .i64 ((i : Nat) : Int)) :: []) a)
    (h : ∀ a', Keeps 397 ((61, .bool (decide (i < 16))) :: (4, .pointer (some ⟨gw, 0, none⟩)) :: (1, .slice pa pn pc) :: (0, .pointer (some ⟨g, 0, none⟩)) :: (5, .int .u32 (hh.a)) :: (6, .int .u32 (hh.b)) :: (7, .int .u32 (hh.c)) :: (8, .int .u32 (hh.d)) :: (9, .int .u32 (hh.e)) :: (10, .int .i64 ((i : Nat) : Int)) :: []) a' → Q .normal a' w) : (Code.region id l.toArray false).wp Try.prog Q a w := by
  refine lit_start ?_
  refine drop_k hO.o0 hk (by decide) (by repeat' (first | exact far_nil _ | refine far_cons (by decide) ?_)) (v := .int .i64 ((i : Nat) : Int)) (fun o ho => do_move ho (hk.at (List.mem_cons_of_mem _ (List.mem_cons_of_mem _ (List.mem_cons_of_mem _ (List.mem_cons_of_mem _ (List.mem_cons_of_mem _ (List.mem_cons_of_mem _ (List.mem_cons_of_mem _ (List.mem_cons_of_mem _ (List.mem_cons_self ..))))))))))) ?_
  clear hk; intro a hk
  refine drop_k hO.o1 hk (by decide) (by repeat' (first | exact far_nil _ | refine far_cons (by decide) ?_)) (v := .bool (decide (i < 16))) (fun o ho => do_ilss ho (hk.at (List.mem_cons_self ..))) ?_
  clear hk; intro a hk
  refine drop_end hO.len ?_
  refine h _ ?_
  refine ⟨hk.1, hk.2.1, fun x hx => hk.2.2 x ?_⟩
  rcases List.mem_cons.1 hx with rfl | hx
  · exact List.mem_cons_self ..
  rcases List.mem_cons.1 hx with rfl | hx
  · exact List.mem_cons_of_mem _ (List.mem_cons_of_mem _ (List.mem_cons_self ..))
  rcases List.mem_cons.1 hx with rfl | hx
  · exact List.mem_cons_of_mem _ (List.mem_cons_of_mem _ (List.mem_cons_of_mem _ (List.mem_cons_self ..)))
  rcases List.mem_cons.1 hx with rfl | hx
  · exact List.mem_cons_of_mem _ (List.mem_cons_of_mem _ (List.mem_cons_of_mem _ (List.mem_cons_of_mem _ (List.mem_cons_self ..))))
  rcases List.mem_cons.1 hx with rfl | hx
  · exact List.mem_cons_of_mem _ (List.mem_cons_of_mem _ (List.mem_cons_of_mem _ (List.mem_cons_of_mem _ (List.mem_cons_of_mem _ (List.mem_cons_self ..)))))
  rcases List.mem_cons.1 hx with rfl | hx
  · exact List.mem_cons_of_mem _ (List.mem_cons_of_mem _ (List.mem_cons_of_mem _ (List.mem_cons_of_mem _ (List.mem_cons_of_mem _ (List.mem_cons_of_mem _ (List.mem_cons_self ..))))))
  rcases List.mem_cons.1 hx with rfl | hx
  · exact List.mem_cons_of_mem _ (List.mem_cons_of_mem _ (List.mem_cons_of_mem _ (List.mem_cons_of_mem _ (List.mem_cons_of_mem _ (List.mem_cons_of_mem _ (List.mem_cons_of_mem _ (List.mem_cons_self ..)))))))
  rcases List.mem_cons.1 hx with rfl | hx
  · exact List.mem_cons_of_mem _ (List.mem_cons_of_mem _ (List.mem_cons_of_mem _ (List.mem_cons_of_mem _ (List.mem_cons_of_mem _ (List.mem_cons_of_mem _ (List.mem_cons_of_mem _ (List.mem_cons_of_mem _ (List.mem_cons_self ..))))))))
  rcases List.mem_cons.1 hx with rfl | hx
  · exact List.mem_cons_of_mem _ (List.mem_cons_of_mem _ (List.mem_cons_of_mem _ (List.mem_cons_of_mem _ (List.mem_cons_of_mem _ (List.mem_cons_of_mem _ (List.mem_cons_of_mem _ (List.mem_cons_of_mem _ (List.mem_cons_of_mem _ (List.mem_cons_self ..)))))))))
  rcases List.mem_cons.1 hx with rfl | hx
  · exact List.mem_cons_of_mem _ (List.mem_cons_of_mem _ (List.mem_cons_of_mem _ (List.mem_cons_of_mem _ (List.mem_cons_of_mem _ (List.mem_cons_of_mem _ (List.mem_cons_of_mem _ (List.mem_cons_of_mem _ (List.mem_cons_of_mem _ (List.mem_cons_of_mem _ (List.mem_cons_self ..))))))))))
  cases hx
structure Rg6 (l : List Oper) : Prop where
  len : l.length = 3
  o0 : (l[0]?).map coreO = some (.move (.tmp 10), (some 64), none)
  o1 : (l[1]?).map coreO = some (.binOp .mul 3 (.tmp 64) (.const (.int .i64 4)) 3, (some 65), none)
  o2 : (l[2]?).map coreO = some (.assign (.tmp 65), (some 11), none)
theorem Rg6_ok {Q : Exit → Act → World → Prop} {id : Nat} {l : List Oper} {a : Act} {w : World} {g gw pn pc : Nat} {pa : Option Addr} {hh : Hs} {i : Nat} (hO : Rg6 l) (hi : i < 16) (hk : Keeps 397 ((4, .pointer (some ⟨gw, 0, none⟩)) :: (1, .slice pa pn pc) :: (0, .pointer (some ⟨g, 0, none⟩)) :: (5, .int .u32 (hh.a)) :: (6, .int .u32 (hh.b)) :: (7, .int .u32 (hh.c)) :: (8, .int .u32 (hh.d)) :: (9, .int .u32 (hh.e)) :: (10, .int .i64 ((i : Nat) : Int)) :: []) a)
    (h : ∀ a', Keeps 397 ((11, .int .i64 ((4 * i : Nat) : Int)) :: (4, .pointer (some ⟨gw, 0, none⟩)) :: (1, .slice pa pn pc) :: (0, .pointer (some ⟨g, 0, none⟩)) :: (5, .int .u32 (hh.a)) :: (6, .int .u32 (hh.b)) :: (7, .int .u32 (hh.c)) :: (8, .int .u32 (hh.d)) :: (9, .int .u32 (hh.e)) :: (10, .int .i64 ((i : Nat) : Int)) :: []) a' → Q .normal a' w) : (Code.region id l.toArray false).wp Try.prog Q a w := by
  refine lit_start ?_
  refine drop_k hO.o0 hk (by decide) (by repeat' (first | exact far_nil _ | refine far_cons (by decide) ?_)) (v := .int .i64 ((i : Nat) : Int)) (fun o ho => do_move ho (hk.at (List.mem_cons_of_mem _ (List.mem_cons_of_mem _ (List.mem_cons_of_mem _ (List.mem_cons_of_mem _ (List.mem_cons_of_mem _ (List.mem_cons_of_mem _ (List.mem_cons_of_mem _ (List.mem_cons_of_mem _ (List.mem_cons_self ..))))))))))) ?_
  clear hk; intro a hk
  refine drop_k hO.o1 hk (by decide) (by repeat' (first | exact far_nil _ | refine far_cons (by decide) ?_)) (v := .int .i64 ((4 * i : Nat) : Int)) (fun o ho => do_imul4 ho (hk.at (List.mem_cons_self ..)) (by omega)) ?_
  clear hk; intro a hk
  refine drop_k hO.o2 hk (by decide) (by repeat' (first | exact far_nil _ | refine far_cons (by decide) ?_)) (v := .int .i64 ((4 * i : Nat) : Int)) (fun o ho => do_assign ho (hk.at (List.mem_cons_self ..))) ?_
  clear hk; intro a hk
  refine drop_end hO.len ?_
  refine h _ ?_
  refine ⟨hk.1, hk.2.1, fun x hx => hk.2.2 x ?_⟩
  rcases List.mem_cons.1 hx with rfl | hx
  · exact List.mem_cons_self ..
  rcases List.mem_cons.1 hx with rfl | hx
  · exact List.mem_cons_of_mem _ (List.mem_cons_of_mem _ (List.mem_cons_of_mem _ (List.mem_cons_self ..)))
  rcases List.mem_cons.1 hx with rfl | hx
  · exact List.mem_cons_of_mem _ (List.mem_cons_of_mem _ (List.mem_cons_of_mem _ (List.mem_cons_of_mem _ (List.mem_cons_self ..))))
  rcases List.mem_cons.1 hx with rfl | hx
  · exact List.mem_cons_of_mem _ (List.mem_cons_of_mem _ (List.mem_cons_of_mem _ (List.mem_cons_of_mem _ (List.mem_cons_of_mem _ (List.mem_cons_self ..)))))
  rcases List.mem_cons.1 hx with rfl | hx
  · exact List.mem_cons_of_mem _ (List.mem_cons_of_mem _ (List.mem_cons_of_mem _ (List.mem_cons_of_mem _ (List.mem_cons_of_mem _ (List.mem_cons_of_mem _ (List.mem_cons_self ..))))))
  rcases List.mem_cons.1 hx with rfl | hx
  · exact List.mem_cons_of_mem _ (List.mem_cons_of_mem _ (List.mem_cons_of_mem _ (List.mem_cons_of_mem _ (List.mem_cons_of_mem _ (List.mem_cons_of_mem _ (List.mem_cons_of_mem _ (List.mem_cons_self ..)))))))
  rcases List.mem_cons.1 hx with rfl | hx
  · exact List.mem_cons_of_mem _ (List.mem_cons_of_mem _ (List.mem_cons_of_mem _ (List.mem_cons_of_mem _ (List.mem_cons_of_mem _ (List.mem_cons_of_mem _ (List.mem_cons_of_mem _ (List.mem_cons_of_mem _ (List.mem_cons_self ..))))))))
  rcases List.mem_cons.1 hx with rfl | hx
  · exact List.mem_cons_of_mem _ (List.mem_cons_of_mem _ (List.mem_cons_of_mem _ (List.mem_cons_of_mem _ (List.mem_cons_of_mem _ (List.mem_cons_of_mem _ (List.mem_cons_of_mem _ (List.mem_cons_of_mem _ (List.mem_cons_of_mem _ (List.mem_cons_self ..)))))))))
  rcases List.mem_cons.1 hx with rfl | hx
  · exact List.mem_cons_of_mem _ (List.mem_cons_of_mem _ (List.mem_cons_of_mem _ (List.mem_cons_of_mem _ (List.mem_cons_of_mem _ (List.mem_cons_of_mem _ (List.mem_cons_of_mem _ (List.mem_cons_of_mem _ (List.mem_cons_of_mem _ (List.mem_cons_of_mem _ (List.mem_cons_self ..))))))))))
  rcases List.mem_cons.1 hx with rfl | hx
  · exact List.mem_cons_of_mem _ (List.mem_cons_of_mem _ (List.mem_cons_of_mem _ (List.mem_cons_of_mem _ (List.mem_cons_of_mem _ (List.mem_cons_of_mem _ (List.mem_cons_of_mem _ (List.mem_cons_of_mem _ (List.mem_cons_of_mem _ (List.mem_cons_of_mem _ (List.mem_cons_of_mem _ (List.mem_cons_self ..)))))))))))
  cases hx
structure Rg5 (l : List Oper) : Prop where
  len : l.length = 3
  o0 : (l[0]?).map coreO = some (.move (.tmp 10), (some 62), none)
  o1 : (l[1]?).map coreO = some (.binOp .add 3 (.tmp 62) (.const (.int .i64 ((1 : Nat) : Int))) 3, (some 63), none)
  o2 : (l[2]?).map coreO = some (.assign (.tmp 63), (some 10), none)
theorem Rg5_ok {Q : Exit → Act → World → Prop} {id : Nat} {l : List Oper} {a : Act} {w : World} {g gw pn pc : Nat} {pa : Option Addr} {hh : Hs} {i : Nat} (hO : Rg5 l) (hi : i < 16) (hk : Keeps 397 ((4, .pointer (some ⟨gw, 0, none⟩)) :: (1, .slice pa pn pc) :: (0, .pointer (some ⟨g, 0, none⟩)) :: (5, .int .u32 (hh.a)) :: (6, .int .u32 (hh.b)) :: (7, .int .u32 (hh.c)) :: (8, .int .u32 (hh.d)) :: (9, .int .u32 (hh.e)) :: (10, .int .i64 ((i : Nat) : Int)) :: []) a)
    (h : ∀ a', Keeps 397 ((4, .pointer (some ⟨gw, 0, none⟩)) :: (1, .slice pa pn pc) :: (0, .pointer (some ⟨g, 0, none⟩)) :: (5, .int .u32 (hh.a)) :: (6, .int .u32 (hh.b)) :: (7, .int .u32 (hh.c)) :: (8, .int .u32 (hh.d)) :: (9, .int .u32 (hh.e)) :: (10, .int .i64 ((i + 1 : Nat) : Int)) :: []) a' → Q .normal a' w) : (Code.region id l.toArray false).wp Try.prog Q a w := by
  refine lit_start ?_
  refine drop_k hO.o0 hk (by decide) (by repeat' (first | exact far_nil _ | refine far_cons (by decide) ?_)) (v := .int .i64 ((i : Nat) : Int)) (fun o ho => do_move ho (hk.at (List.mem_cons_of_mem _ (List.mem_cons_of_mem _ (List.mem_cons_of_mem _ (List.mem_cons_of_mem _ (List.mem_cons_of_mem _ (List.mem_cons_of_mem _ (List.mem_cons_of_mem _ (List.mem_cons_of_mem _ (List.mem_cons_self ..))))))))))) ?_
  clear hk; intro a hk
  refine drop_k hO.o1 hk (by decide) (by repeat' (first | exact far_nil _ | refine far_cons (by decide) ?_)) (v := .int .i64 ((i + 1 : Nat) : Int)) (fun o ho => do_iadd ho (hk.at (List.mem_cons_self ..)) (by omega) (by omega)) ?_
  clear hk; intro a hk
  have hk2 : Keeps 397 ((63, .int .i64 ((i + 1 : Nat) : Int)) :: (62, .int .i64 ((i : Nat) : Int)) :: (4, .pointer (some ⟨gw, 0, none⟩)) :: (1, .slice pa pn pc) :: (0, .pointer (some ⟨g, 0, none⟩)) :: (5, .int .u32 (hh.a)) :: (6, .int .u32 (hh.b)) :: (7, .int .u32 (hh.c)) :: (8, .int .u32 (hh.d)) :: (9, .int .u32 (hh.e)) :: []) a := by
    refine ⟨hk.1, hk.2.1, fun x hx => hk.2.2 x ?_⟩
    rcases List.mem_cons.1 hx with rfl | hx
    · exact List.mem_cons_self ..
    rcases List.mem_cons.1 hx with rfl | hx
    · exact List.mem_cons_of_mem _ (List.mem_cons_self ..)
    rcases List.mem_cons.1 hx with rfl | hx
    · exact List.mem_cons_of_mem _ (List.mem_cons_of_mem _ (List.mem_cons_self ..))
    rcases List.mem_cons.1 hx with rfl | hx
    · exact List.mem_cons_of_mem _ (List.mem_cons_of_mem _ (List.mem_cons_of_mem _ (List.mem_cons_self ..)))
    rcases List.mem_cons.1 hx with rfl | hx
    · exact List.mem_cons_of_mem _ (List.mem_cons_of_mem _ (List.mem_cons_of_mem _ (List.mem_cons_of_mem _ (List.mem_cons_self ..))))
    rcases List.mem_cons.1 hx with rfl | hx
    · exact List.mem_cons_of_mem _ (List.mem_cons_of_mem _ (List.mem_cons_of_mem _ (List.mem_cons_of_mem _ (List.mem_cons_of_mem _ (List.mem_cons_self ..)))))
    rcases List.mem_cons.1 hx with rfl | hx
    · exact List.mem_cons_of_mem _ (List.mem_cons_of_mem _ (List.mem_cons_of_mem _ (List.mem_cons_of_mem _ (List.mem_cons_of_mem _ (List.mem_cons_of_mem _ (List.mem_cons_self ..))))))
    rcases List.mem_cons.1 hx with rfl | hx
    · exact List.mem_cons_of_mem _ (List.mem_cons_of_mem _ (List.mem_cons_of_mem _ (List.mem_cons_of_mem _ (List.mem_cons_of_mem _ (List.mem_cons_of_mem _ (List.mem_cons_of_mem _ (List.mem_cons_self ..)))))))
    rcases List.mem_cons.1 hx with rfl | hx
    · exact List.mem_cons_of_mem _ (List.mem_cons_of_mem _ (List.mem_cons_of_mem _ (List.mem_cons_of_mem _ (List.mem_cons_of_mem _ (List.mem_cons_of_mem _ (List.mem_cons_of_mem _ (List.mem_cons_of_mem _ (List.mem_cons_self ..))))))))
    rcases List.mem_cons.1 hx with rfl | hx
    · exact List.mem_cons_of_mem _ (List.mem_cons_of_mem _ (List.mem_cons_of_mem _ (List.mem_cons_of_mem _ (List.mem_cons_of_mem _ (List.mem_cons_of_mem _ (List.mem_cons_of_mem _ (List.mem_cons_of_mem _ (List.mem_cons_of_mem _ (List.mem_cons_self ..)))))))))
    cases hx
  clear hk
  have hk := hk2
  clear hk2
  refine drop_k hO.o2 hk (by decide) (by repeat' (first | exact far_nil _ | refine far_cons (by decide) ?_)) (v := .int .i64 ((i + 1 : Nat) : Int)) (fun o ho => do_assign ho (hk.at (List.mem_cons_self ..))) ?_
  clear hk; intro a hk
  refine drop_end hO.len ?_
  refine h _ ?_
  refine ⟨hk.1, hk.2.1, fun x hx => hk.2.2 x ?_⟩
  rcases List.mem_cons.1 hx with rfl | hx
  · exact List.mem_cons_of_mem _ (List.mem_cons_of_mem _ (List.mem_cons_of_mem _ (List.mem_cons_self ..)))
  rcases List.mem_cons.1 hx with rfl | hx
  · exact List.mem_cons_of_mem _ (List.mem_cons_of_mem _ (List.mem_cons_of_mem _ (List.mem_cons_of_mem _ (List.mem_cons_self ..))))
  rcases List.mem_cons.1 hx with rfl | hx
  · exact List.mem_cons_of_mem _ (List.mem_cons_of_mem _ (List.mem_cons_of_mem _ (List.mem_cons_of_mem _ (List.mem_cons_of_mem _ (List.mem_cons_self ..)))))
  rcases List.mem_cons.1 hx with rfl | hx
  · exact List.mem_cons_of_mem _ (List.mem_cons_of_mem _ (List.mem_cons_of_mem _ (List.mem_cons_of_mem _ (List.mem_cons_of_mem _ (List.mem_cons_of_mem _ (List.mem_cons_self ..))))))
  rcases List.mem_cons.1 hx with rfl | hx
  · exact List.mem_cons_of_mem _ (List.mem_cons_of_mem _ (List.mem_cons_of_mem _ (List.mem_cons_of_mem _ (List.mem_cons_of_mem _ (List.mem_cons_of_mem _ (List.mem_cons_of_mem _ (List.mem_cons_self ..)))))))
  rcases List.mem_cons.1 hx with rfl | hx
  · exact List.mem_cons_of_mem _ (List.mem_cons_of_mem _ (List.mem_cons_of_mem _ (List.mem_cons_of_mem _ (List.mem_cons_of_mem _ (List.mem_cons_of_mem _ (List.mem_cons_of_mem _ (List.mem_cons_of_mem _ (List.mem_cons_self ..))))))))
  rcases List.mem_cons.1 hx with rfl | hx
  · exact List.mem_cons_of_mem _ (List.mem_cons_of_mem _ (List.mem_cons_of_mem _ (List.mem_cons_of_mem _ (List.mem_cons_of_mem _ (List.mem_cons_of_mem _ (List.mem_cons_of_mem _ (List.mem_cons_of_mem _ (List.mem_cons_of_mem _ (List.mem_cons_self ..)))))))))
  rcases List.mem_cons.1 hx with rfl | hx
  · exact List.mem_cons_of_mem _ (List.mem_cons_of_mem _ (List.mem_cons_of_mem _ (List.mem_cons_of_mem _ (List.mem_cons_of_mem _ (List.mem_cons_of_mem _ (List.mem_cons_of_mem _ (List.mem_cons_of_mem _ (List.mem_cons_of_mem _ (List.mem_cons_of_mem _ (List.mem_cons_self ..))))))))))
  rcases List.mem_cons.1 hx with rfl | hx
  · exact List.mem_cons_self ..
  cases hx
structure Rg7 (l : List Oper) : Prop where
  len : l.length = 32
  o0 : (l[0]?).map coreO = some (.move (.tmp 10), (some 66), none)
  o1 : (l[1]?).map coreO = some (.move (.tmp 1), (some 67), none)
  o2 : (l[2]?).map coreO = some (.move (.tmp 11), (some 68), none)
  o3 : (l[3]?).map coreO = some (.indexAddr 22 (.tmp 67) (.tmp 68), (some 69), none)
  o4 : (l[4]?).map coreO = some (.load 5 (.tmp 69), (some 70), none)
  o5 : (l[5]?).map coreO = some (.convert 5 43 (.tmp 70), (some 71), none)
  o6 : (l[6]?).map coreO = some (.binOp .shl 43 (.tmp 71) (.const (.int .u64 24)) 42, (some 72), none)
  o7 : (l[7]?).map coreO = some (.move (.tmp 1), (some 73), none)
  o8 : (l[8]?).map coreO = some (.move (.tmp 11), (some 74), none)
  o9 : (l[9]?).map coreO = some (.binOp .add 3 (.tmp 74) (.const (.int .i64 ((1 : Nat) : Int))) 3, (some 75), none)
  o10 : (l[10]?).map coreO = some (.indexAddr 22 (.tmp 73) (.tmp 75), (some 76), none)
  o11 : (l[11]?).map coreO = some (.load 5 (.tmp 76), (some 77), none)
  o12 : (l[12]?).map coreO = some (.convert 5 43 (.tmp 77), (some 78), none)
  o13 : (l[13]?).map coreO = some (.binOp .shl 43 (.tmp 78) (.const (.int .u64 16)) 42, (some 79), none)
  o14 : (l[14]?).map coreO = some (.binOp .or 43 (.tmp 72) (.tmp 79) 43, (some 80), none)
  o15 : (l[15]?).map coreO = some (.move (.tmp 1), (some 81), none)
  o16 : (l[16]?).map coreO = some (.move (.tmp 11), (some 82), none)
  o17 : (l[17]?).map coreO = some (.binOp .add 3 (.tmp 82) (.const (.int .i64 ((2 : Nat) : Int))) 3, (some 83), none)
  o18 : (l[18]?).map coreO = some (.indexAddr 22 (.tmp 81) (.tmp 83), (some 84), none)
  o19 : (l[19]?).map coreO = some (.load 5 (.tmp 84), (some 85), none)
  o20 : (l[20]?).map coreO = some (.convert 5 43 (.tmp 85), (some 86), none)
  o21 : (l[21]?).map coreO = some (.binOp .shl 43 (.tmp 86) (.const (.int .u64 8)) 42, (some 87), none)
  o22 : (l[22]?).map coreO = some (.binOp .or 43 (.tmp 80) (.tmp 87) 43, (some 88), none)
  o23 : (l[23]?).map coreO = some (.move (.tmp 1), (some 89), none)
  o24 : (l[24]?).map coreO = some (.move (.tmp 11), (some 90), none)
  o25 : (l[25]?).map coreO = some (.binOp .add 3 (.tmp 90) (.const (.int .i64 ((3 : Nat) : Int))) 3, (some 91), none)
  o26 : (l[26]?).map coreO = some (.indexAddr 22 (.tmp 89) (.tmp 91), (some 92), none)
  o27 : (l[27]?).map coreO = some (.load 5 (.tmp 92), (some 93), none)
  o28 : (l[28]?).map coreO = some (.convert 5 43 (.tmp 93), (some 94), none)
  o29 : (l[29]?).map coreO = some (.binOp .or 43 (.tmp 88) (.tmp 94) 43, (some 95), none)
  o30 : (l[30]?).map coreO = some (.indexAddr 62 (.tmp 4) (.tmp 66), (some 96), none)
  o31 : (l[31]?).map coreO = some (.store 43 (.tmp 96) (.tmp 95), none, none)
  ns : Region.noSelect l.toArray = true
  ok : planOk .any l.toArray (([(0, 0), (1, 0), (2, 0), (3, 0), (4, 0), (5, 0), (6, 0), (7, 0), (8, 0), (9, 0), (10, 0), (11, 0), (12, 0), (13, 0), (14, 0), (15, 0), (16, 0), (17, 0), (18, 0), (19, 0), (20, 0), (21, 0), (22, 0), (23, 0), (24, 0), (25, 0), (26, 0), (27, 0), (28, 0), (29, 0), (30, 0), (31, 2)].filter (·.2 == 0)).map (·.1)) [(0, 0), (1, 0), (2, 0), (3, 0), (4, 0), (5, 0), (6, 0), (7, 0), (8, 0), (9, 0), (10, 0), (11, 0), (12, 0), (13, 0), (14, 0), (15, 0), (16, 0), (17, 0), (18, 0), (19, 0), (20, 0), (21, 0), (22, 0), (23, 0), (24, 0), (25, 0), (26, 0), (27, 0), (28, 0), (29, 0), (30, 0), (31, 2)] (Array.replicate l.length false) = true
theorem Rg7_ok {Q : Exit → Act → World → Prop} {id : Nat} {l : List Oper} {a : Act} {w : World} {g gw pn pc pb po i : Nat} {hh : Hs} {p : List UInt8} {W : List Int} (hO : Rg7 l) (hi : i < 16) (hpn : 64 ≤ pn) (hpl : p.length = pn) (hr : Rd w (some ⟨pb, po, none⟩) p) (hW : Cells16 w gw W) (hQ : ∀ c a d v w, Q (.panic c) (a.put d v) w → Q (.panic c) a w) (hk : Keeps 397 ((4, .pointer (some ⟨gw, 0, none⟩)) :: (1, .slice (some ⟨pb, po, none⟩) pn pc) :: (0, .pointer (some ⟨g, 0, none⟩)) :: (5, .int .u32 (hh.a)) :: (6, .int .u32 (hh.b)) :: (7, .int .u32 (hh.c)) :: (8, .int .u32 (hh.d)) :: (9, .int .u32 (hh.e)) :: (10, .int .i64 ((i : Nat) : Int)) :: (11, .int .i64 ((4 * i : Nat) : Int)) :: []) a)
    (h : ∀ a' w', Keeps 397 ((4, .pointer (some ⟨gw, 0, none⟩)) :: (1, .slice (some ⟨pb, po, none⟩) pn pc) :: (0, .pointer (some ⟨g, 0, none⟩)) :: (5, .int .u32 (hh.a)) :: (6, .int .u32 (hh.b)) :: (7, .int .u32 (hh.c)) :: (8, .int .u32 (hh.d)) :: (9, .int .u32 (hh.e)) :: (10, .int .i64 ((i : Nat) : Int)) :: []) a' → Cells16 w' gw (W.set i (ldW p i)) → w.grownBy w' (some gw) → Q .normal a' w') : (Code.region id l.toArray true).wp Try.prog Q a w := by
  refine region_plan2 (fun w' => Below w.heap.size w w') [(0, 0), (1, 0), (2, 0), (3, 0), (4, 0), (5, 0), (6, 0), (7, 0), (8, 0), (9, 0), (10, 0), (11, 0), (12, 0), (13, 0), (14, 0), (15, 0), (16, 0), (17, 0), (18, 0), (19, 0), (20, 0), (21, 0), (22, 0), (23, 0), (24, 0), (25, 0), (26, 0), (27, 0), (28, 0), (29, 0), (30, 0), (31, 2)] rfl hO.ns hO.ok (by rw [hO.len]; rfl) hQ (fun _ _ h => h) ?_
  intro OPS w1 hpW hb1
  have hLP : ∀ j, j < pn → ∀ w', Below w.heap.size w w' → w'.cell? ⟨pb, po + j, none⟩ = some (.int .u8 ((B p j : Nat) : Int)) := fun j hj w' hS => by
    rcases hr.2 with rfl | ⟨b', o', he, hc⟩
    · simp at hpl; omega
    · obtain ⟨rfl, rfl⟩ : pb = b' ∧ po = o' := by simpa using he
      have := hc j (by omega)
      rw [hS.cell (World.block_lt_of_cell? w _ this)]
      exact this
  refine plan_k hO.o0 hk (by decide) (by repeat' (first | exact far_nil _ | refine far_cons (by decide) ?_)) (v := .int .i64 ((i : Nat) : Int)) (fun o ho w' hS => do_move ho (hk.at (List.mem_cons_of_mem _ (List.mem_cons_of_mem _ (List.mem_cons_of_mem _ (List.mem_cons_of_mem _ (List.mem_cons_of_mem _ (List.mem_cons_of_mem _ (List.mem_cons_of_mem _ (List.mem_cons_of_mem _ (List.mem_cons_self ..))))))))))) ?_
  clear hk; intro a hk
  refine plan_k hO.o1 hk (by decide) (by repeat' (first | exact far_nil _ | refine far_cons (by decide) ?_)) (v := .slice (some ⟨pb, po, none⟩) pn pc) (fun o ho w' hS => do_move ho (hk.at (List.mem_cons_of_mem _ (List.mem_cons_of_mem _ (List.mem_cons_self ..))))) ?_
  clear hk; intro a hk
  refine plan_k hO.o2 hk (by decide) (by repeat' (first | exact far_nil _ | refine far_cons (by decide) ?_)) (v := .int .i64 ((4 * i : Nat) : Int)) (fun o ho w' hS => do_move ho (hk.at (List.mem_cons_of_mem _ (List.mem_cons_of_mem _ (List.mem_cons_of_mem _ (List.mem_cons_of_mem _ (List.mem_cons_of_mem _ (List.mem_cons_of_mem _ (List.mem_cons_of_mem _ (List.mem_cons_of_mem _ (List.mem_cons_of_mem _ (List.mem_cons_of_mem _ (List.mem_cons_of_mem _ (List.mem_cons_self ..)))))))))))))) ?_
  clear hk; intro a hk
  refine plan_k hO.o3 hk (by decide) (by repeat' (first | exact far_nil _ | refine far_cons (by decide) ?_)) (v := .pointer (some ⟨pb, po + (4 * i), none⟩)) (fun o ho w' hS => (still_index (S := fun _ => True) ho Try.underlying22 (by kernel_rfl) (hk.at (List.mem_cons_of_mem _ (List.mem_cons_self ..))) (4 * i) (hk.at (List.mem_cons_self ..)) (by omega) _ trivial)) ?_
  clear hk; intro a hk
  refine plan_k hO.o4 hk (by decide) (by repeat' (first | exact far_nil _ | refine far_cons (by decide) ?_)) (v := .int .u8 ((B p (4 * i) : Nat) : Int)) (fun o ho w' hS => do_load8 ho (hk.at (List.mem_cons_self ..)) (hLP _ (by omega) w' hS)) ?_
  clear hk; intro a hk
  refine plan_k hO.o5 hk (by decide) (by repeat' (first | exact far_nil _ | refine far_cons (by decide) ?_)) (v := .int .u32 (uOf ((B p (4 * i) : Nat) : Int))) (fun o ho w' hS => do_conv ho (hk.at (List.mem_cons_self ..))) ?_
  clear hk; intro a hk
  refine plan_k hO.o6 hk (by decide) (by repeat' (first | exact far_nil _ | refine far_cons (by decide) ?_)) (v := .int .u32 (uShl24 (uOf ((B p (4 * i) : Nat) : Int)))) (fun o ho w' hS => do_shl24 ho (hk.at (List.mem_cons_self ..))) ?_
  clear hk; intro a hk
  refine plan_k hO.o7 hk (by decide) (by repeat' (first | exact far_nil _ | refine far_cons (by decide) ?_)) (v := .slice (some ⟨pb, po, none⟩) pn pc) (fun o ho w' hS => do_move ho (hk.at (List.mem_cons_of_mem _ (List.mem_cons_of_mem _ (List.mem_cons_of_mem _ (List.mem_cons_of_mem _ (List.mem_cons_of_mem _ (List.mem_cons_of_mem _ (List.mem_cons_of_mem _ (List.mem_cons_of_mem _ (List.mem_cons_self ..))))))))))) ?_
  clear hk; intro a hk
  refine plan_k hO.o8 hk (by decide) (by repeat' (first | exact far_nil _ | refine far_cons (by decide) ?_)) (v := .int .i64 ((4 * i : Nat) : Int)) (fun o ho w' hS => do_move ho (hk.at (List.mem_cons_of_mem _ (List.mem_cons_of_mem _ (List.mem_cons_of_mem _ (List.mem_cons_of_mem _ (List.mem_cons_of_mem _ (List.mem_cons_of_mem _ (List.mem_cons_of_mem _ (List.mem_cons_of_mem _ (List.mem_cons_of_mem _ (List.mem_cons_of_mem _ (List.mem_cons_of_mem _ (List.mem_cons_of_mem _ (List.mem_cons_of_mem _ (List.mem_cons_of_mem _ (List.mem_cons_of_mem _ (List.mem_cons_of_mem _ (List.mem_cons_of_mem _ (List.mem_cons_self ..)))))))))))))))))))) ?_
  clear hk; intro a hk
  refine plan_k hO.o9 hk (by decide) (by repeat' (first | exact far_nil _ | refine far_cons (by decide) ?_)) (v := .int .i64 ((4 * i + 1 : Nat) : Int)) (fun o ho w' hS => do_iadd ho (hk.at (List.mem_cons_self ..)) (by omega) (by omega)) ?_
  clear hk; intro a hk
  refine plan_k hO.o10 hk (by decide) (by repeat' (first | exact far_nil _ | refine far_cons (by decide) ?_)) (v := .pointer (some ⟨pb, po + (4 * i + 1), none⟩)) (fun o ho w' hS => (still_index (S := fun _ => True) ho Try.underlying22 (by kernel_rfl) (hk.at (List.mem_cons_of_mem _ (List.mem_cons_of_mem _ (List.mem_cons_self ..)))) (4 * i + 1) (hk.at (List.mem_cons_self ..)) (by omega) _ trivial)) ?_
  clear hk; intro a hk
  refine plan_k hO.o11 hk (by decide) (by repeat' (first | exact far_nil _ | refine far_cons (by decide) ?_)) (v := .int .u8 ((B p (4 * i + 1) : Nat) : Int)) (fun o ho w' hS => do_load8 ho (hk.at (List.mem_cons_self ..)) (hLP _ (by omega) w' hS)) ?_
  clear hk; intro a hk
  refine plan_k hO.o12 hk (by decide) (by repeat' (first | exact far_nil _ | refine far_cons (by decide) ?_)) (v := .int .u32 (uOf ((B p (4 * i + 1) : Nat) : Int))) (fun o ho w' hS => do_conv ho (hk.at (List.mem_cons_self ..))) ?_
  clear hk; intro a hk
  refine plan_k hO.o13 hk (by decide) (by repeat' (first | exact far_nil _ | refine far_cons (by decide) ?_)) (v := .int .u32 (uShl16 (uOf ((B p (4 * i + 1) : Nat) : Int)))) (fun o ho w' hS => do_shl16 ho (hk.at (List.mem_cons_self ..))) ?_
  clear hk; intro a hk
  refine plan_k hO.o14 hk (by decide) (by repeat' (first | exact far_nil _ | refine far_cons (by decide) ?_)) (v := .int .u32 (uOr (uShl24 (uOf ((B p (4 * i) : Nat) : Int))) (uShl16 (uOf ((B p (4 * i + 1) : Nat) : Int))))) (fun o ho w' hS => do_or32 ho (hk.at (List.mem_cons_of_mem _ (List.mem_cons_of_mem _ (List.mem_cons_of_mem _ (List.mem_cons_of_mem _ (List.mem_cons_of_mem _ (List.mem_cons_of_mem _ (List.mem_cons_of_mem _ (List.mem_cons_self ..))))))))) (hk.at (List.mem_cons_self ..))) ?_
  clear hk; intro a hk
  refine plan_k hO.o15 hk (by decide) (by repeat' (first | exact far_nil _ | refine far_cons (by decide) ?_)) (v := .slice (some ⟨pb, po, none⟩) pn pc) (fun o ho w' hS => do_move ho (hk.at (List.mem_cons_of_mem _ (List.mem_cons_of_mem _ (List.mem_cons_of_mem _ (List.mem_cons_of_mem _ (List.mem_cons_of_mem _ (List.mem_cons_of_mem _ (List.mem_cons_of_mem _ (List.mem_cons_of_mem _ (List.mem_cons_of_mem _ (List.mem_cons_of_mem _ (List.mem_cons_of_mem _ (List.mem_cons_of_mem _ (List.mem_cons_of_mem _ (List.mem_cons_of_mem _ (List.mem_cons_of_mem _ (List.mem_cons_of_mem _ (List.mem_cons_self ..))))))))))))))))))) ?_
  clear hk; intro a hk
  refine plan_k hO.o16 hk (by decide) (by repeat' (first | exact far_nil _ | refine far_cons (by decide) ?_)) (v := .int .i64 ((4 * i : Nat) : Int)) (fun o ho w' hS => do_move ho (hk.at (List.mem_cons_of_mem _ (List.mem_cons_of_mem _ (List.mem_cons_of_mem _ (List.mem_cons_of_mem _ (List.mem_cons_of_mem _ (List.mem_cons_of_mem _ (List.mem_cons_of_mem _ (List.mem_cons_of_mem _ (List.mem_cons_of_mem _ (List.mem_cons_of_mem _ (List.mem_cons_of_mem _ (List.mem_cons_of_mem _ (List.mem_cons_of_mem _ (List.mem_cons_of_mem _ (List.mem_cons_of_mem _ (List.mem_cons_of_mem _ (List.mem_cons_of_mem _ (List.mem_cons_of_mem _ (List.mem_cons_of_mem _ (List.mem_cons_of_mem _ (List.mem_cons_of_mem _ (List.mem_cons_of_mem _ (List.mem_cons_of_mem _ (List.mem_cons_of_mem _ (List.mem_cons_of_mem _ (List.mem_cons_self ..)))))))))))))))))))))))))))) ?_
  clear hk; intro a hk
  refine plan_k hO.o17 hk (by decide) (by repeat' (first | exact far_nil _ | refine far_cons (by decide) ?_)) (v := .int .i64 ((4 * i + 2 : Nat) : Int)) (fun o ho w' hS => do_iadd ho (hk.at (List.mem_cons_self ..)) (by omega) (by omega)) ?_
  clear hk; intro a hk
  refine plan_k hO.o18 hk (by decide) (by repeat' (first | exact far_nil _ | refine far_cons (by decide) ?_)) (v := .pointer (some ⟨pb, po + (4 * i + 2), none⟩)) (fun o ho w' hS => (still_index (S := fun _ => True) ho Try.underlying22 (by kernel_rfl) (hk.at (List.mem_cons_of_mem _ (List.mem_cons_of_mem _ (List.mem_cons_self ..)))) (4 * i + 2) (hk.at (List.mem_cons_self ..)) (by omega) _ trivial)) ?_
  clear hk; intro a hk
  refine plan_k hO.o19 hk (by decide) (by repeat' (first | exact far_nil _ | refine far_cons (by decide) ?_)) (v := .int .u8 ((B p (4 * i + 2) : Nat) : Int)) (fun o ho w' hS => do_load8 ho (hk.at (List.mem_cons_self ..)) (hLP _ (by omega) w' hS)) ?_
  clear hk; intro a hk
  refine plan_k hO.o20 hk (by decide) (by repeat' (first | exact far_nil _ | refine far_cons (by decide) ?_)) (v := .int .u32 (uOf ((B p (4 * i + 2) : Nat) : Int))) (fun o ho w' hS => do_conv ho (hk.at (List.mem_cons_self ..))) ?_
  clear hk; intro a hk
  refine plan_k hO.o21 hk (by decide) (by repeat' (first | exact far_nil _ | refine far_cons (by decide) ?_)) (v := .int .u32 (uShl8 (uOf ((B p (4 * i + 2) : Nat) : Int)))) (fun o ho w' hS => do_shl8 ho (hk.at (List.mem_cons_self ..))) ?_
  clear hk; intro a hk
  refine plan_k hO.o22 hk (by decide) (by repeat' (first | exact far_nil _ | refine far_cons (by decide) ?_)) (v := .int .u32 (uOr (uOr (uShl24 (uOf ((B p (4 * i) : Nat) : Int))) (uShl16 (uOf ((B p (4 * i + 1) : Nat) : Int)))) (uShl8 (uOf ((B p (4 * i + 2) : Nat) : Int))))) (fun o ho w' hS => do_or32 ho (hk.at (List.mem_cons_of_mem _ (List.mem_cons_of_mem _ (List.mem_cons_of_mem _ (List.mem_cons_of_mem _ (List.mem_cons_of_mem _ (List.mem_cons_of_mem _ (List.mem_cons_of_mem _ (List.mem_cons_self ..))))))))) (hk.at (List.mem_cons_self ..))) ?_
  clear hk; intro a hk
  refine plan_k hO.o23 hk (by decide) (by repeat' (first | exact far_nil _ | refine far_cons (by decide) ?_)) (v := .slice (some ⟨pb, po, none⟩) pn pc) (fun o ho w' hS => do_move ho (hk.at (List.mem_cons_of_mem _ (List.mem_cons_of_mem _ (List.mem_cons_of_mem _ (List.mem_cons_of_mem _ (List.mem_cons_of_mem _ (List.mem_cons_of_mem _ (List.mem_cons_of_mem _ (List.mem_cons_of_mem _ (List.mem_cons_of_mem _ (List.mem_cons_of_mem _ (List.mem_cons_of_mem _ (List.mem_cons_of_mem _ (List.mem_cons_of_mem _ (List.mem_cons_of_mem _ (List.mem_cons_of_mem _ (List.mem_cons_of_mem _ (List.mem_cons_of_mem _ (List.mem_cons_of_mem _ (List.mem_cons_of_mem _ (List.mem_cons_of_mem _ (List.mem_cons_of_mem _ (List.mem_cons_of_mem _ (List.mem_cons_of_mem _ (List.mem_cons_of_mem _ (List.mem_cons_self ..))))))))))))))))))))))))))) ?_
  clear hk; intro a hk
  refine plan_k hO.o24 hk (by decide) (by repeat' (first | exact far_nil _ | refine far_cons (by decide) ?_)) (v := .int .i64 ((4 * i : Nat) : Int)) (fun o ho w' hS => do_move ho (hk.at (List.mem_cons_of_mem _ (List.mem_cons_of_mem _ (List.mem_cons_of_mem _ (List.mem_cons_of_mem _ (List.mem_cons_of_mem _ (List.mem_cons_of_mem _ (List.mem_cons_of_mem _ (List.mem_cons_of_mem _ (List.mem_cons_of_mem _ (List.mem_cons_of_mem _ (List.mem_cons_of_mem _ (List.mem_cons_of_mem _ (List.mem_cons_of_mem _ (List.mem_cons_of_mem _ (List.mem_cons_of_mem _ (List.mem_cons_of_mem _ (List.mem_cons_of_mem _ (List.mem_cons_of_mem _ (List.mem_cons_of_mem _ (List.mem_cons_of_mem _ (List.mem_cons_of_mem _ (List.mem_cons_of_mem _ (List.mem_cons_of_mem _ (List.mem_cons_of_mem _ (List.mem_cons_of_mem _ (List.mem_cons_of_mem _ (List.mem_cons_of_mem _ (List.mem_cons_of_mem _ (List.mem_cons_of_mem _ (List.mem_cons_of_mem _ (List.mem_cons_of_mem _ (List.mem_cons_of_mem _ (List.mem_cons_of_mem _ (List.mem_cons_self ..)))))))))))))))))))))))))))))))))))) ?_
  clear hk; intro a hk
  refine plan_k hO.o25 hk (by decide) (by repeat' (first | exact far_nil _ | refine far_cons (by decide) ?_)) (v := .int .i64 ((4 * i + 3 : Nat) : Int)) (fun o ho w' hS => do_iadd ho (hk.at (List.mem_cons_self ..)) (by omega) (by omega)) ?_
  clear hk; intro a hk
  refine plan_k hO.o26 hk (by decide) (by repeat' (first | exact far_nil _ | refine far_cons (by decide) ?_)) (v := .pointer (some ⟨pb, po + (4 * i + 3), none⟩)) (fun o ho w' hS => (still_index (S := fun _ => True) ho Try.underlying22 (by kernel_rfl) (hk.at (List.mem_cons_of_mem _ (List.mem_cons_of_mem _ (List.mem_cons_self ..)))) (4 * i + 3) (hk.at (List.mem_cons_self ..)) (by omega) _ trivial)) ?_
  clear hk; intro a hk
  refine plan_k hO.o27 hk (by decide) (by repeat' (first | exact far_nil _ | refine far_cons (by decide) ?_)) (v := .int .u8 ((B p (4 * i + 3) : Nat) : Int)) (fun o ho w' hS => do_load8 ho (hk.at (List.mem_cons_self ..)) (hLP _ (by omega) w' hS)) ?_
  clear hk; intro a hk
  refine plan_k hO.o28 hk (by decide) (by repeat' (first | exact far_nil _ | refine far_cons (by decide) ?_)) (v := .int .u32 (uOf ((B p (4 * i + 3) : Nat) : Int))) (fun o ho w' hS => do_conv ho (hk.at (List.mem_cons_self ..))) ?_
  clear hk; intro a hk
  refine plan_k hO.o29 hk (by decide) (by repeat' (first | exact far_nil _ | refine far_cons (by decide) ?_)) (v := .int .u32 (uOr (uOr (uOr (uShl24 (uOf ((B p (4 * i) : Nat) : Int))) (uShl16 (uOf ((B p (4 * i + 1) : Nat) : Int)))) (uShl8 (uOf ((B p (4 * i + 2) : Nat) : Int)))) (uOf ((B p (4 * i + 3) : Nat) : Int)))) (fun o ho w' hS => do_or32 ho (hk.at (List.mem_cons_of_mem _ (List.mem_cons_of_mem _ (List.mem_cons_of_mem _ (List.mem_cons_of_mem _ (List.mem_cons_of_mem _ (List.mem_cons_of_mem _ (List.mem_cons_self ..)))))))) (hk.at (List.mem_cons_self ..))) ?_
  clear hk; intro a hk
  refine plan_k hO.o30 hk (by decide) (by repeat' (first | exact far_nil _ | refine far_cons (by decide) ?_)) (v := .pointer (some ⟨gw, i, none⟩)) (fun o ho w' hS => do_wat ho (hk.at (List.mem_cons_of_mem _ (List.mem_cons_of_mem _ (List.mem_cons_of_mem _ (List.mem_cons_of_mem _ (List.mem_cons_of_mem _ (List.mem_cons_of_mem _ (List.mem_cons_of_mem _ (List.mem_cons_of_mem _ (List.mem_cons_of_mem _ (List.mem_cons_of_mem _ (List.mem_cons_of_mem _ (List.mem_cons_of_mem _ (List.mem_cons_of_mem _ (List.mem_cons_of_mem _ (List.mem_cons_of_mem _ (List.mem_cons_of_mem _ (List.mem_cons_of_mem _ (List.mem_cons_of_mem _ (List.mem_cons_of_mem _ (List.mem_cons_of_mem _ (List.mem_cons_of_mem _ (List.mem_cons_of_mem _ (List.mem_cons_of_mem _ (List.mem_cons_of_mem _ (List.mem_cons_of_mem _ (List.mem_cons_of_mem _ (List.mem_cons_of_mem _ (List.mem_cons_of_mem _ (List.mem_cons_of_mem _ (List.mem_cons_of_mem _ (List.mem_cons_self ..)))))))))))))))))))))))))))))))) (hk.at (List.mem_cons_of_mem _ (List.mem_cons_of_mem _ (List.mem_cons_of_mem _ (List.mem_cons_of_mem _ (List.mem_cons_of_mem _ (List.mem_cons_of_mem _ (List.mem_cons_of_mem _ (List.mem_cons_of_mem _ (List.mem_cons_of_mem _ (List.mem_cons_of_mem _ (List.mem_cons_of_mem _ (List.mem_cons_of_mem _ (List.mem_cons_of_mem _ (List.mem_cons_of_mem _ (List.mem_cons_of_mem _ (List.mem_cons_of_mem _ (List.mem_cons_of_mem _ (List.mem_cons_of_mem _ (List.mem_cons_of_mem _ (List.mem_cons_of_mem _ (List.mem_cons_of_mem _ (List.mem_cons_of_mem _ (List.mem_cons_of_mem _ (List.mem_cons_of_mem _ (List.mem_cons_of_mem _ (List.mem_cons_of_mem _ (List.mem_cons_of_mem _ (List.mem_cons_of_mem _ (List.mem_cons_of_mem _ (List.mem_cons_self ..))))))))))))))))))))))))))))))) (by omega)) ?_
  clear hk; intro a hk
  obtain ⟨hl, ty, hB⟩ := hW
  refine plan_kl hO.o31 fun o ho hd hgd => ?_
  have hB1 := hB.kept hb1
  refine wp_store_cell hgd ho (by kernel_rfl) (hk.at (List.mem_cons_self ..)) (hk.at (List.mem_cons_of_mem _ (List.mem_cons_self ..))) rfl hB1 (by rw [List.length_map, hl]; omega) fun w2 b2 g2 s2 => ?_
  rw [hd]
  show wpPlan Try.prog OPS Q (fun w' => Below w.heap.size w w') (planOps2 l []) _ _
  refine plan_k0 ?_
  refine h _ _ ?_ ⟨by rw [List.length_set, hl], ty, by rw [List.map_set]; exact b2⟩ (grown_trans (grown_below hb1 _) g2)
  refine ⟨hk.1, hk.2.1, fun x hx => hk.2.2 x ?_⟩
  rcases List.mem_cons.1 hx with rfl | hx
  · exact List.mem_cons_of_mem _ (List.mem_cons_of_mem _ (List.mem_cons_of_mem _ (List.mem_cons_of_mem _ (List.mem_cons_of_mem _ (List.mem_cons_of_mem _ (List.mem_cons_of_mem _ (List.mem_cons_of_mem _ (List.mem_cons_of_mem _ (List.mem_cons_of_mem _ (List.mem_cons_of_mem _ (List.mem_cons_of_mem _ (List.mem_cons_of_mem _ (List.mem_cons_of_mem _ (List.mem_cons_of_mem _ (List.mem_cons_of_mem _ (List.mem_cons_of_mem _ (List.mem_cons_of_mem _ (List.mem_cons_of_mem _ (List.mem_cons_of_mem _ (List.mem_cons_of_mem _ (List.mem_cons_of_mem _ (List.mem_cons_of_mem _ (List.mem_cons_of_mem _ (List.mem_cons_of_mem _ (List.mem_cons_of_mem _ (List.mem_cons_of_mem _ (List.mem_cons_of_mem _ (List.mem_cons_of_mem _ (List.mem_cons_of_mem _ (List.mem_cons_of_mem _ (List.mem_cons_self ..)))))))))))))))))))))))))))))))
  rcases List.mem_cons.1 hx with rfl | hx
  · exact List.mem_cons_of_mem _ (List.mem_cons_of_mem _ (List.mem_cons_of_mem _ (List.mem_cons_of_mem _ (List.mem_cons_of_mem _ (List.mem_cons_of_mem _ (List.mem_cons_of_mem _ (List.mem_cons_of_mem _ (List.mem_cons_of_mem _ (List.mem_cons_of_mem _ (List.mem_cons_of_mem _ (List.mem_cons_of_mem _ (List.mem_cons_of_mem _ (List.mem_cons_of_mem _ (List.mem_cons_of_mem _ (List.mem_cons_of_mem _ (List.mem_cons_of_mem _ (List.mem_cons_of_mem _ (List.mem_cons_of_mem _ (List.mem_cons_of_mem _ (List.mem_cons_of_mem _ (List.mem_cons_of_mem _ (List.mem_cons_of_mem _ (List.mem_cons_of_mem _ (List.mem_cons_of_mem _ (List.mem_cons_of_mem _ (List.mem_cons_of_mem _ (List.mem_cons_of_mem _ (List.mem_cons_of_mem _ (List.mem_cons_of_mem _ (List.mem_cons_of_mem _ (List.mem_cons_of_mem _ (List.mem_cons_self ..))))))))))))))))))))))))))))))))
  rcases List.mem_cons.1 hx with rfl | hx
  · exact List.mem_cons_of_mem _ (List.mem_cons_of_mem _ (List.mem_cons_of_mem _ (List.mem_cons_of_mem _ (List.mem_cons_of_mem _ (List.mem_cons_of_mem _ (List.mem_cons_of_mem _ (List.mem_cons_of_mem _ (List.mem_cons_of_mem _ (List.mem_cons_of_mem _ (List.mem_cons_of_mem _ (List.mem_cons_of_mem _ (List.mem_cons_of_mem _ (List.mem_cons_of_mem _ (List.mem_cons_of_mem _ (List.mem_cons_of_mem _ (List.mem_cons_of_mem _ (List.mem_cons_of_mem _ (List.mem_cons_of_mem _ (List.mem_cons_of_mem _ (List.mem_cons_of_mem _ (List.mem_cons_of_mem _ (List.mem_cons_of_mem _ (List.mem_cons_of_mem _ (List.mem_cons_of_mem _ (List.mem_cons_of_mem _ (List.mem_cons_of_mem _ (List.mem_cons_of_mem _ (List.mem_cons_of_mem _ (List.mem_cons_of_mem _ (List.mem_cons_of_mem _ (List.mem_cons_of_mem _ (List.mem_cons_of_mem _ (List.mem_cons_self ..)))))))))))))))))))))))))))))))))
  rcases List.mem_cons.1 hx with rfl | hx
  · exact List.mem_cons_of_mem _ (List.mem_cons_of_mem _ (List.mem_cons_of_mem _ (List.mem_cons_of_mem _ (List.mem_cons_of_mem _ (List.mem_cons_of_mem _ (List.mem_cons_of_mem _ (List.mem_cons_of_mem _ (List.mem_cons_of_mem _ (List.mem_cons_of_mem _ (List.mem_cons_of_mem _ (List.mem_cons_of_mem _ (List.mem_cons_of_mem _ (List.mem_cons_of_mem _ (List.mem_cons_of_mem _ (List.mem_cons_of_mem _ (List.mem_cons_of_mem _ (List.mem_cons_of_mem _ (List.mem_cons_of_mem _ (List.mem_cons_of_mem _ (List.mem_cons_of_mem _ (List.mem_cons_of_mem _ (List.mem_cons_of_mem _ (List.mem_cons_of_mem _ (List.mem_cons_of_mem _ (List.mem_cons_of_mem _ (List.mem_cons_of_mem _ (List.mem_cons_of_mem _ (List.mem_cons_of_mem _ (List.mem_cons_of_mem _ (List.mem_cons_of_mem _ (List.mem_cons_of_mem _ (List.mem_cons_of_mem _ (List.mem_cons_of_mem _ (List.mem_cons_self ..))))))))))))))))))))))))))))))))))
  rcases List.mem_cons.1 hx with rfl | hx
  · exact List.mem_cons_of_mem _ (List.mem_cons_of_mem _ (List.mem_cons_of_mem _ (List.mem_cons_of_mem _ (List.mem_cons_of_mem _ (List.mem_cons_of_mem _ (List.mem_cons_of_mem _ (List.mem_cons_of_mem _ (List.mem_cons_of_mem _ (List.mem_cons_of_mem _ (List.mem_cons_of_mem _ (List.mem_cons_of_mem _ (List.mem_cons_of_mem _ (List.mem_cons_of_mem _ (List.mem_cons_of_mem _ (List.mem_cons_of_mem _ (List.mem_cons_of_mem _ (List.mem_cons_of_mem _ (List.mem_cons_of_mem _ (List.mem_cons_of_mem _ (List.mem_cons_of_mem _ (List.mem_cons_of_mem _ (List.mem_cons_of_mem _ (List.mem_cons_of_mem _ (List.mem_cons_of_mem _ (List.mem_cons_of_mem _ (List.mem_cons_of_mem _ (List.mem_cons_of_mem _ (List.mem_cons_of_mem _ (List.mem_cons_of_mem _ (List.mem_cons_of_mem _ (List.mem_cons_of_mem _ (List.mem_cons_of_mem _ (List.mem_cons_of_mem _ (List.mem_cons_of_mem _ (List.mem_cons_self ..)))))))))))))))))))))))))))))))))))
  rcases List.mem_cons.1 hx with rfl | hx
  · exact List.mem_cons_of_mem _ (List.mem_cons_of_mem _ (List.mem_cons_of_mem _ (List.mem_cons_of_mem _ (List.mem_cons_of_mem _ (List.mem_cons_of_mem _ (List.mem_cons_of_mem _ (List.mem_cons_of_mem _ (List.mem_cons_of_mem _ (List.mem_cons_of_mem _ (List.mem_cons_of_mem _ (List.mem_cons_of_mem _ (List.mem_cons_of_mem _ (List.mem_cons_of_mem _ (List.mem_cons_of_mem _ (List.mem_cons_of_mem _ (List.mem_cons_of_mem _ (List.mem_cons_of_mem _ (List.mem_cons_of_mem _ (List.mem_cons_of_mem _ (List.mem_cons_of_mem _ (List.mem_cons_of_mem _ (List.mem_cons_of_mem _ (List.mem_cons_of_mem _ (List.mem_cons_of_mem _ (List.mem_cons_of_mem _ (List.mem_cons_of_mem _ (List.mem_cons_of_mem _ (List.mem_cons_of_mem _ (List.mem_cons_of_mem _ (List.mem_cons_of_mem _ (List.mem_cons_of_mem _ (List.mem_cons_of_mem _ (List.mem_cons_of_mem _ (List.mem_cons_of_mem _ (List.mem_cons_of_mem _ (List.mem_cons_self ..))))))))))))))))))))))))))))))))))))
  rcases List.mem_cons.1 hx with rfl | hx
  · exact List.mem_cons_of_mem _ (List.mem_cons_of_mem _ (List.mem_cons_of_mem _ (List.mem_cons_of_mem _ (List.mem_cons_of_mem _ (List.mem_cons_of_mem _ (List.mem_cons_of_mem _ (List.mem_cons_of_mem _ (List.mem_cons_of_mem _ (List.mem_cons_of_mem _ (List.mem_cons_of_mem _ (List.mem_cons_of_mem _ (List.mem_cons_of_mem _ (List.mem_cons_of_mem _ (List.mem_cons_of_mem _ (List.mem_cons_of_mem _ (List.mem_cons_of_mem _ (List.mem_cons_of_mem _ (List.mem_cons_of_mem _ (List.mem_cons_of_mem _ (List.mem_cons_of_mem _ (List.mem_cons_of_mem _ (List.mem_cons_of_mem _ (List.mem_cons_of_mem _ (List.mem_cons_of_mem _ (List.mem_cons_of_mem _ (List.mem_cons_of_mem _ (List.mem_cons_of_mem _ (List.mem_cons_of_mem _ (List.mem_cons_of_mem _ (List.mem_cons_of_mem _ (List.mem_cons_of_mem _ (List.mem_cons_of_mem _ (List.mem_cons_of_mem _ (List.mem_cons_of_mem _ (List.mem_cons_of_mem _ (List.mem_cons_of_mem _ (List.mem_cons_self ..)))))))))))))))))))))))))))))))))))))
  rcases List.mem_cons.1 hx with rfl | hx
  · exact List.mem_cons_of_mem _ (List.mem_cons_of_mem _ (List.mem_cons_of_mem _ (List.mem_cons_of_mem _ (List.mem_cons_of_mem _ (List.mem_cons_of_mem _ (List.mem_cons_of_mem _ (List.mem_cons_of_mem _ (List.mem_cons_of_mem _ (List.mem_cons_of_mem _ (List.mem_cons_of_mem _ (List.mem_cons_of_mem _ (List.mem_cons_of_mem _ (List.mem_cons_of_mem _ (List.mem_cons_of_mem _ (List.mem_cons_of_mem _ (List.mem_cons_of_mem _ (List.mem_cons_of_mem _ (List.mem_cons_of_mem _ (List.mem_cons_of_mem _ (List.mem_cons_of_mem _ (List.mem_cons_of_mem _ (List.mem_cons_of_mem _ (List.mem_cons_of_mem _ (List.mem_cons_of_mem _ (List.mem_cons_of_mem _ (List.mem_cons_of_mem _ (List.mem_cons_of_mem _ (List.mem_cons_of_mem _ (List.mem_cons_of_mem _ (List.mem_cons_of_mem _ (List.mem_cons_of_mem _ (List.mem_cons_of_mem _ (List.mem_cons_of_mem _ (List.mem_cons_of_mem _ (List.mem_cons_of_mem _ (List.mem_cons_of_mem _ (List.mem_cons_of_mem _ (List.mem_cons_self ..))))))))))))))))))))))))))))))))))))))
  rcases List.mem_cons.1 hx with rfl | hx
  · exact List.mem_cons_of_mem _ (List.mem_cons_of_mem _ (List.mem_cons_of_mem _ (List.mem_cons_of_mem _ (List.mem_cons_of_mem _ (List.mem_cons_of_mem _ (List.mem_cons_of_mem _ (List.mem_cons_of_mem _ (List.mem_cons_of_mem _ (List.mem_cons_of_mem _ (List.mem_cons_of_mem _ (List.mem_cons_of_mem _ (List.mem_cons_of_mem _ (List.mem_cons_of_mem _ (List.mem_cons_of_mem _ (List.mem_cons_of_mem _ (List.mem_cons_of_mem _ (List.mem_cons_of_mem _ (List.mem_cons_of_mem _ (List.mem_cons_of_mem _ (List.mem_cons_of_mem _ (List.mem_cons_of_mem _ (List.mem_cons_of_mem _ (List.mem_cons_of_mem _ (List.mem_cons_of_mem _ (List.mem_cons_of_mem _ (List.mem_cons_of_mem _ (List.mem_cons_of_mem _ (List.mem_cons_of_mem _ (List.mem_cons_of_mem _ (List.mem_cons_of_mem _ (List.mem_cons_of_mem _ (List.mem_cons_of_mem _ (List.mem_cons_of_mem _ (List.mem_cons_of_mem _ (List.mem_cons_of_mem _ (List.mem_cons_of_mem _ (List.mem_cons_of_mem _ (List.mem_cons_of_mem _ (List.mem_cons_self ..)))))))))))))))))))))))))))))))))))))))
  cases hx
structure Rg8 (l : List Oper) : Prop where
  len : l.length = 10
  o0 : (l[0]?).map coreO = some (.move (.tmp 5), (some 97), none)
  o1 : (l[1]?).map coreO = some (.move (.tmp 6), (some 98), none)
  o2 : (l[2]?).map coreO = some (.move (.tmp 7), (some 99), none)
  o3 : (l[3]?).map coreO = some (.move (.tmp 8), (some 100), none)
  o4 : (l[4]?).map coreO = some (.move (.tmp 9), (some 101), none)
  o5 : (l[5]?).map coreO = some (.assign (.tmp 97), (some 12), none)
  o6 : (l[6]?).map coreO = some (.assign (.tmp 98), (some 13), none)
  o7 : (l[7]?).map coreO = some (.assign (.tmp 99), (some 14), none)
  o8 : (l[8]?).map coreO = some (.assign (.tmp 100), (some 15), none)
  o9 : (l[9]?).map coreO = some (.assign (.tmp 101), (some 16), none)
theorem Rg8_ok {Q : Exit → Act → World → Prop} {id : Nat} {l : List Oper} {a : Act} {w : World} {g gw pn pc : Nat} {pa : Option Addr} {hh : Hs} (hO : Rg8 l)  (hk : Keeps 397 ((4, .pointer (some ⟨gw, 0, none⟩)) :: (1, .slice pa pn pc) :: (0, .pointer (some ⟨g, 0, none⟩)) :: (5, .int .u32 (hh.a)) :: (6, .int .u32 (hh.b)) :: (7, .int .u32 (hh.c)) :: (8, .int .u32 (hh.d)) :: (9, .int .u32 (hh.e)) :: []) a)
    (h : ∀ a', Keeps 397 ((4, .pointer (some ⟨gw, 0, none⟩)) :: (12, .int .u32 (hh.a)) :: (13, .int .u32 (hh.b)) :: (14, .int .u32 (hh.c)) :: (15, .int .u32 (hh.d)) :: (16, .int .u32 (hh.e)) :: (1, .slice pa pn pc) :: (0, .pointer (some ⟨g, 0, none⟩)) :: (5, .int .u32 (hh.a)) :: (6, .int .u32 (hh.b)) :: (7, .int .u32 (hh.c)) :: (8, .int .u32 (hh.d)) :: (9, .int .u32 (hh.e)) :: []) a' → Q .normal a' w) : (Code.region id l.toArray false).wp Try.prog Q a w := by
  refine lit_start ?_
  refine drop_k hO.o0 hk (by decide) (by repeat' (first | exact far_nil _ | refine far_cons (by decide) ?_)) (v := .int .u32 (hh.a)) (fun o ho => do_move ho (hk.at (List.mem_cons_of_mem _ (List.mem_cons_of_mem _ (List.mem_cons_of_mem _ (List.mem_cons_self ..)))))) ?_
  clear hk; intro a hk
  refine drop_k hO.o1 hk (by decide) (by repeat' (first | exact far_nil _ | refine far_cons (by decide) ?_)) (v := .int .u32 (hh.b)) (fun o ho => do_move ho (hk.at (List.mem_cons_of_mem _ (List.mem_cons_of_mem _ (List.mem_cons_of_mem _ (List.mem_cons_of_mem _ (List.mem_cons_of_mem _ (List.mem_cons_self ..)))))))) ?_
  clear hk; intro a hk
  refine drop_k hO.o2 hk (by decide) (by repeat' (first | exact far_nil _ | refine far_cons (by decide) ?_)) (v := .int .u32 (hh.c)) (fun o ho => do_move ho (hk.at (List.mem_cons_of_mem _ (List.mem_cons_of_mem _ (List.mem_cons_of_mem _ (List.mem_cons_of_mem _ (List.mem_cons_of_mem _ (List.mem_cons_of_mem _ (List.mem_cons_of_mem _ (List.mem_cons_self ..)))))))))) ?_
  clear hk; intro a hk
  refine drop_k hO.o3 hk (by decide) (by repeat' (first | exact far_nil _ | refine far_cons (by decide) ?_)) (v := .int .u32 (hh.d)) (fun o ho => do_move ho (hk.at (List.mem_cons_of_mem _ (List.mem_cons_of_mem _ (List.mem_cons_of_mem _ (List.mem_cons_of_mem _ (List.mem_cons_of_mem _ (List.mem_cons_of_mem _ (List.mem_cons_of_mem _ (List.mem_cons_of_mem _ (List.mem_cons_of_mem _ (List.mem_cons_self ..)))))))))))) ?_
  clear hk; intro a hk
  refine drop_k hO.o4 hk (by decide) (by repeat' (first | exact far_nil _ | refine far_cons (by decide) ?_)) (v := .int .u32 (hh.e)) (fun o ho => do_move ho (hk.at (List.mem_cons_of_mem _ (List.mem_cons_of_mem _ (List.mem_cons_of_mem _ (List.mem_cons_of_mem _ (List.mem_cons_of_mem _ (List.mem_cons_of_mem _ (List.mem_cons_of_mem _ (List.mem_cons_of_mem _ (List.mem_cons_of_mem _ (List.mem_cons_of_mem _ (List.mem_cons_of_mem _ (List.mem_cons_self ..)))))))))))))) ?_
  clear hk; intro a hk
  refine drop_k hO.o5 hk (by decide) (by repeat' (first | exact far_nil _ | refine far_cons (by decide) ?_)) (v := .int .u32 (hh.a)) (fun o ho => do_assign ho (hk.at (List.mem_cons_of_mem _ (List.mem_cons_of_mem _ (List.mem_cons_of_mem _ (List.mem_cons_of_mem _ (List.mem_cons_self ..))))))) ?_
  clear hk; intro a hk
  refine drop_k hO.o6 hk (by decide) (by repeat' (first | exact far_nil _ | refine far_cons (by decide) ?_)) (v := .int .u32 (hh.b)) (fun o ho => do_assign ho (hk.at (List.mem_cons_of_mem _ (List.mem_cons_of_mem _ (List.mem_cons_of_mem _ (List.mem_cons_of_mem _ (List.mem_cons_self ..))))))) ?_
  clear hk; intro a hk
  refine drop_k hO.o7 hk (by decide) (by repeat' (first | exact far_nil _ | refine far_cons (by decide) ?_)) (v := .int .u32 (hh.c)) (fun o ho => do_assign ho (hk.at (List.mem_cons_of_mem _ (List.mem_cons_of_mem _ (List.mem_cons_of_mem _ (List.mem_cons_of_mem _ (List.mem_cons_self ..))))))) ?_
  clear hk; intro a hk
  refine drop_k hO.o8 hk (by decide) (by repeat' (first | exact far_nil _ | refine far_cons (by decide) ?_)) (v := .int .u32 (hh.d)) (fun o ho => do_assign ho (hk.at (List.mem_cons_of_mem _ (List.mem_cons_of_mem _ (List.mem_cons_of_mem _ (List.mem_cons_of_mem _ (List.mem_cons_self ..))))))) ?_
  clear hk; intro a hk
  refine drop_k hO.o9 hk (by decide) (by repeat' (first | exact far_nil _ | refine far_cons (by decide) ?_)) (v := .int .u32 (hh.e)) (fun o ho => do_assign ho (hk.at (List.mem_cons_of_mem _ (List.mem_cons_of_mem _ (List.mem_cons_of_mem _ (List.mem_cons_of_mem _ (List.mem_cons_self ..))))))) ?_
  clear hk; intro a hk
  refine drop_end hO.len ?_
  refine h _ ?_
  refine ⟨hk.1, hk.2.1, fun x hx => hk.2.2 x ?_⟩
  rcases List.mem_cons.1 hx with rfl | hx
  · exact List.mem_cons_of_mem _ (List.mem_cons_of_mem _ (List.mem_cons_of_mem _ (List.mem_cons_of_mem _ (List.mem_cons_of_mem _ (List.mem_cons_of_mem _ (List.mem_cons_of_mem _ (List.mem_cons_of_mem _ (List.mem_cons_of_mem _ (List.mem_cons_of_mem _ (List.mem_cons_self ..))))))))))
  rcases List.mem_cons.1 hx with rfl | hx
  · exact List.mem_cons_of_mem _ (List.mem_cons_of_mem _ (List.mem_cons_of_mem _ (List.mem_cons_of_mem _ (List.mem_cons_self ..))))
  rcases List.mem_cons.1 hx with rfl | hx
  · exact List.mem_cons_of_mem _ (List.mem_cons_of_mem _ (List.mem_cons_of_mem _ (List.mem_cons_self ..)))
  rcases List.mem_cons.1 hx with rfl | hx
  · exact List.mem_cons_of_mem _ (List.mem_cons_of_mem _ (List.mem_cons_self ..))
  rcases List.mem_cons.1 hx with rfl | hx
  · exact List.mem_cons_of_mem _ (List.mem_cons_self ..)
  rcases List.mem_cons.1 hx with rfl | hx
  · exact List.mem_cons_self ..
  rcases List.mem_cons.1 hx with rfl | hx
  · exact List.mem_cons_of_mem _ (List.mem_cons_of_mem _ (List.mem_cons_of_mem _ (List.mem_cons_of_mem _ (List.mem_cons_of_mem _ (List.mem_cons_of_mem _ (List.mem_cons_of_mem _ (List.mem_cons_of_mem _ (List.mem_cons_of_mem _ (List.mem_cons_of_mem _ (List.mem_cons_of_mem _ (List.mem_cons_self ..)))))))))))
  rcases List.mem_cons.1 hx with rfl | hx
  · exact List.mem_cons_of_mem _ (List.mem_cons_of_mem _ (List.mem_cons_of_mem _ (List.mem_cons_of_mem _ (List.mem_cons_of_mem _ (List.mem_cons_of_mem _ (List.mem_cons_of_mem _ (List.mem_cons_of_mem _ (List.mem_cons_of_mem _ (List.mem_cons_of_mem _ (List.mem_cons_of_mem _ (List.mem_cons_of_mem _ (List.mem_cons_self ..))))))))))))
  rcases List.mem_cons.1 hx with rfl | hx
  · exact List.mem_cons_of_mem _ (List.mem_cons_of_mem _ (List.mem_cons_of_mem _ (List.mem_cons_of_mem _ (List.mem_cons_of_mem _ (List.mem_cons_of_mem _ (List.mem_cons_of_mem _ (List.mem_cons_of_mem _ (List.mem_cons_of_mem _ (List.mem_cons_of_mem _ (List.mem_cons_of_mem _ (List.mem_cons_of_mem _ (List.mem_cons_of_mem _ (List.mem_cons_self ..)))))))))))))
  rcases List.mem_cons.1 hx with rfl | hx
  · exact List.mem_cons_of_mem _ (List.mem_cons_of_mem _ (List.mem_cons_of_mem _ (List.mem_cons_of_mem _ (List.mem_cons_of_mem _ (List.mem_cons_of_mem _ (List.mem_cons_of_mem _ (List.mem_cons_of_mem _ (List.mem_cons_of_mem _ (List.mem_cons_of_mem _ (List.mem_cons_of_mem _ (List.mem_cons_of_mem _ (List.mem_cons_of_mem _ (List.mem_cons_of_mem _ (List.mem_cons_self ..))))))))))))))
  rcases List.mem_cons.1 hx with rfl | hx
  · exact List.mem_cons_of_mem _ (List.mem_cons_of_mem _ (List.mem_cons_of_mem _ (List.mem_cons_of_mem _ (List.mem_cons_of_mem _ (List.mem_cons_of_mem _ (List.mem_cons_of_mem _ (List.mem_cons_of_mem _ (List.mem_cons_of_mem _ (List.mem_cons_of_mem _ (List.mem_cons_of_mem _ (List.mem_cons_of_mem _ (List.mem_cons_of_mem _ (List.mem_cons_of_mem _ (List.mem_cons_of_mem _ (List.mem_cons_self ..)))))))))))))))
  rcases List.mem_cons.1 hx with rfl | hx
  · exact List.mem_cons_of_mem _ (List.mem_cons_of_mem _ (List.mem_cons_of_mem _ (List.mem_cons_of_mem _ (List.mem_cons_of_mem _ (List.mem_cons_of_mem _ (List.mem_cons_of_mem _ (List.mem_cons_of_mem _ (List.mem_cons_of_mem _ (List.mem_cons_of_mem _ (List.mem_cons_of_mem _ (List.mem_cons_of_mem _ (List.mem_cons_of_mem _ (List.mem_cons_of_mem _ (List.mem_cons_of_mem _ (List.mem_cons_of_mem _ (List.mem_cons_self ..))))))))))))))))
  rcases List.mem_cons.1 hx with rfl | hx
  · exact List.mem_cons_of_mem _ (List.mem_cons_of_mem _ (List.mem_cons_of_mem _ (List.mem_cons_of_mem _ (List.mem_cons_of_mem _ (List.mem_cons_of_mem _ (List.mem_cons_of_mem _ (List.mem_cons_of_mem _ (List.mem_cons_of_mem _ (List.mem_cons_of_mem _ (List.mem_cons_of_mem _ (List.mem_cons_of_mem _ (List.mem_cons_of_mem _ (List.mem_cons_of_mem _ (List.mem_cons_of_mem _ (List.mem_cons_of_mem _ (List.mem_cons_of_mem _ (List.mem_cons_self ..)))))))))))))))))
  cases hx
structure Rg9 (l : List Oper) : Prop where
  len : l.length = 1
  o0 : (l[0]?).map coreO = some (.assign (.const (.int .i64 ((0 : Nat) : Int))), (some 17), none)
theorem Rg9_ok {Q : Exit → Act → World → Prop} {id : Nat} {l : List Oper} {a : Act} {w : World} {g gw pn pc : Nat} {pa : Option Addr} {hh : Hs} (hO : Rg9 l)  (hk : Keeps 397 ((4, .pointer (some ⟨gw, 0, none⟩)) :: (12, .int .u32 (hh.a)) :: (13, .int .u32 (hh.b)) :: (14, .int .u32 (hh.c)) :: (15, .int .u32 (hh.d)) :: (16, .int .u32 (hh.e)) :: (1, .slice pa pn pc) :: (0, .pointer (some ⟨g, 0, none⟩)) :: (5, .int .u32 (hh.a)) :: (6, .int .u32 (hh.b)) :: (7, .int .u32 (hh.c)) :: (8, .int .u32 (hh.d)) :: (9, .int .u32 (hh.e)) :: []) a)
    (h : ∀ a', Keeps 397 ((4, .pointer (some ⟨gw, 0, none⟩)) :: (12, .int .u32 (hh.a)) :: (13, .int .u32 (hh.b)) :: (14, .int .u32 (hh.c)) :: (15, .int .u32 (hh.d)) :: (16, .int .u32 (hh.e)) :: (17, .int .i64 ((0 : Nat) : Int)) :: (1, .slice pa pn pc) :: (0, .pointer (some ⟨g, 0, none⟩)) :: (5, .int .u32 (hh.a)) :: (6, .int .u32 (hh.b)) :: (7, .int .u32 (hh.c)) :: (8, .int .u32 (hh.d)) :: (9, .int .u32 (hh.e)) :: []) a' → Q .normal a' w) : (Code.region id l.toArray false).wp Try.prog Q a w := by
  refine lit_start ?_
  refine drop_k hO.o0 hk (by decide) (by repeat' (first | exact far_nil _ | refine far_cons (by decide) ?_)) (v := .int .i64 ((0 : Nat) : Int)) (fun o ho => do_assign ho rfl) ?_
  clear hk; intro a hk
  refine drop_end hO.len ?_
  refine h _ ?_
  refine ⟨hk.1, hk.2.1, fun x hx => hk.2.2 x ?_⟩
  rcases List.mem_cons.1 hx with rfl | hx
  · exact List.mem_cons_of_mem _ (List.mem_cons_self ..)
  rcases List.mem_cons.1 hx with rfl | hx
  · exact List.mem_cons_of_mem _ (List.mem_cons_of_mem _ (List.mem_cons_self ..))
  rcases List.mem_cons.1 hx with rfl | hx
  · exact List.mem_cons_of_mem _ (List.mem_cons_of_mem _ (List.mem_cons_of_mem _ (List.mem_cons_self ..)))
  rcases List.mem_cons.1 hx with rfl | hx
  · exact List.mem_cons_of_mem _ (List.mem_cons_of_mem _ (List.mem_cons_of_mem _ (List.mem_cons_of_mem _ (List.mem_cons_self ..))))
  rcases List.mem_cons.1 hx with rfl | hx
  · exact List.mem_cons_of_mem _ (List.mem_cons_of_mem _ (List.mem_cons_of_mem _ (List.mem_cons_of_mem _ (List.mem_cons_of_mem _ (List.mem_cons_self ..)))))
  rcases List.mem_cons.1 hx with rfl | hx
  · exact List.mem_cons_of_mem _ (List.mem_cons_of_mem _ (List.mem_cons_of_mem _ (List.mem_cons_of_mem _ (List.mem_cons_of_mem _ (List.mem_cons_of_mem _ (List.mem_cons_self ..))))))
  rcases List.mem_cons.1 hx with rfl | hx
  · exact List.mem_cons_self ..
  rcases List.mem_cons.1 hx with rfl | hx
  · exact List.mem_cons_of_mem _ (List.mem_cons_of_mem _ (List.mem_cons_of_mem _ (List.mem_cons_of_mem _ (List.mem_cons_of_mem _ (List.mem_cons_of_mem _ (List.mem_cons_of_mem _ (List.mem_cons_self ..)))))))
  rcases List.mem_cons.1 hx with rfl | hx
  · exact List.mem_cons_of_mem _ (List.mem_cons_of_mem _ (List.mem_cons_of_mem _ (List.mem_cons_of_mem _ (List.mem_cons_of_mem _ (List.mem_cons_of_mem _ (List.mem_cons_of_mem _ (List.mem_cons_of_mem _ (List.mem_cons_self ..))))))))
  rcases List.mem_cons.1 hx with rfl | hx
  · exact List.mem_cons_of_mem _ (List.mem_cons_of_mem _ (List.mem_cons_of_mem _ (List.mem_cons_of_mem _ (List.mem_cons_of_mem _ (List.mem_cons_of_mem _ (List.mem_cons_of_mem _ (List.mem_cons_of_mem _ (List.mem_cons_of_mem _ (List.mem_cons_self ..)))))))))
  rcases List.mem_cons.1 hx with rfl | hx
  · exact List.mem_cons_of_mem _ (List.mem_cons_of_mem _ (List.mem_cons_of_mem _ (List.mem_cons_of_mem _ (List.mem_cons_of_mem _ (List.mem_cons_of_mem _ (List.mem_cons_of_mem _ (List.mem_cons_of_mem _ (List.mem_cons_of_mem _ (List.mem_cons_of_mem _ (List.mem_cons_self ..))))))))))
  rcases List.mem_cons.1 hx with rfl | hx
  · exact List.mem_cons_of_mem _ (List.mem_cons_of_mem _ (List.mem_cons_of_mem _ (List.mem_cons_of_mem _ (List.mem_cons_of_mem _ (List.mem_cons_of_mem _ (List.mem_cons_of_mem _ (List.mem_cons_of_mem _ (List.mem_cons_of_mem _ (List.mem_cons_of_mem _ (List.mem_cons_of_mem _ (List.mem_cons_self ..)))))))))))
  rcases List.mem_cons.1 hx with rfl | hx
  · exact List.mem_cons_of_mem _ (List.mem_cons_of_mem _ (List.mem_cons_of_mem _ (List.mem_cons_of_mem _ (List.mem_cons_of_mem _ (List.mem_cons_of_mem _ (List.mem_cons_of_mem _ (List.mem_cons_of_mem _ (List.mem_cons_of_mem _ (List.mem_cons_of_mem _ (List.mem_cons_of_mem _ (List.mem_cons_of_mem _ (List.mem_cons_self ..))))))))))))
  rcases List.mem_cons.1 hx with rfl | hx
  · exact List.mem_cons_of_mem _ (List.mem_cons_of_mem _ (List.mem_cons_of_mem _ (List.mem_cons_of_mem _ (List.mem_cons_of_mem _ (List.mem_cons_of_mem _ (List.mem_cons_of_mem _ (List.mem_cons_of_mem _ (List.mem_cons_of_mem _ (List.mem_cons_of_mem _ (List.mem_cons_of_mem _ (List.mem_cons_of_mem _ (List.mem_cons_of_mem _ (List.mem_cons_self ..)))))))))))))
  cases hx
structure Rg43 (l : List Oper) : Prop where
  len : l.length = 4
  o0 : (l[0]?).map coreO = some (.move (.tmp 5), (some 355), none)
  o1 : (l[1]?).map coreO = some (.move (.tmp 12), (some 356), none)
  o2 : (l[2]?).map coreO = some (.binOp .add 43 (.tmp 355) (.tmp 356) 43, (some 357), none)
  o3 : (l[3]?).map coreO = some (.assign (.tmp 357), (some 5), none)
theorem Rg43_ok {Q : Exit → Act → World → Prop} {id : Nat} {l : List Oper} {a : Act} {w : World} {g gw pn pc : Nat} {pa : Option Addr} {hh : Hs} {s : St} (hO : Rg43 l)  (hk : Keeps 397 ((4, .pointer (some ⟨gw, 0, none⟩)) :: (12, .int .u32 (s.a)) :: (13, .int .u32 (s.b)) :: (14, .int .u32 (s.c)) :: (15, .int .u32 (s.d)) :: (16, .int .u32 (s.e)) :: (1, .slice pa pn pc) :: (0, .pointer (some ⟨g, 0, none⟩)) :: (5, .int .u32 (hh.a)) :: (6, .int .u32 (hh.b)) :: (7, .int .u32 (hh.c)) :: (8, .int .u32 (hh.d)) :: (9, .int .u32 (hh.e)) :: []) a)
    (h : ∀ a', Keeps 397 ((4, .pointer (some ⟨gw, 0, none⟩)) :: (12, .int .u32 (s.a)) :: (13, .int .u32 (s.b)) :: (14, .int .u32 (s.c)) :: (15, .int .u32 (s.d)) :: (16, .int .u32 (s.e)) :: (1, .slice pa pn pc) :: (0, .pointer (some ⟨g, 0, none⟩)) :: (5, .int .u32 (uAdd (hh.a) (s.a))) :: (6, .int .u32 (hh.b)) :: (7, .int .u32 (hh.c)) :: (8, .int .u32 (hh.d)) :: (9, .int .u32 (hh.e)) :: []) a' → Q .normal a' w) : (Code.region id l.toArray false).wp Try.prog Q a w := by
  refine lit_start ?_
  refine drop_k hO.o0 hk (by decide) (by repeat' (first | exact far_nil _ | refine far_cons (by decide) ?_)) (v := .int .u32 (hh.a)) (fun o ho => do_move ho (hk.at (List.mem_cons_of_mem _ (List.mem_cons_of_mem _ (List.mem_cons_of_mem _ (List.mem_cons_of_mem _ (List.mem_cons_of_mem _ (List.mem_cons_of_mem _ (List.mem_cons_of_mem _ (List.mem_cons_of_mem _ (List.mem_cons_self ..))))))))))) ?_
  clear hk; intro a hk
  refine drop_k hO.o1 hk (by decide) (by repeat' (first | exact far_nil _ | refine far_cons (by decide) ?_)) (v := .int .u32 (s.a)) (fun o ho => do_move ho (hk.at (List.mem_cons_of_mem _ (List.mem_cons_of_mem _ (List.mem_cons_self ..))))) ?_
  clear hk; intro a hk
  refine drop_k hO.o2 hk (by decide) (by repeat' (first | exact far_nil _ | refine far_cons (by decide) ?_)) (v := .int .u32 (uAdd (hh.a) (s.a))) (fun o ho => do_add ho (hk.at (List.mem_cons_of_mem _ (List.mem_cons_self ..))) (hk.at (List.mem_cons_self ..))) ?_
  clear hk; intro a hk
  have hk2 : Keeps 397 ((357, .int .u32 (uAdd (hh.a) (s.a))) :: (356, .int .u32 (s.a)) :: (355, .int .u32 (hh.a)) :: (4, .pointer (some ⟨gw, 0, none⟩)) :: (12, .int .u32 (s.a)) :: (13, .int .u32 (s.b)) :: (14, .int .u32 (s.c)) :: (15, .int .u32 (s.d)) :: (16, .int .u32 (s.e)) :: (1, .slice pa pn pc) :: (0, .pointer (some ⟨g, 0, none⟩)) :: (6, .int .u32 (hh.b)) :: (7, .int .u32 (hh.c)) :: (8, .int .u32 (hh.d)) :: (9, .int .u32 (hh.e)) :: []) a := by
    refine ⟨hk.1, hk.2.1, fun x hx => hk.2.2 x ?_⟩
    rcases List.mem_cons.1 hx with rfl | hx
    · exact List.mem_cons_self ..
    rcases List.mem_cons.1 hx with rfl | hx
    · exact List.mem_cons_of_mem _ (List.mem_cons_self ..)
    rcases List.mem_cons.1 hx with rfl | hx
    · exact List.mem_cons_of_mem _ (List.mem_cons_of_mem _ (List.mem_cons_self ..))
    rcases List.mem_cons.1 hx with rfl | hx
    · exact List.mem_cons_of_mem _ (List.mem_cons_of_mem _ (List.mem_cons_of_mem _ (List.mem_cons_self ..)))
    rcases List.mem_cons.1 hx with rfl | hx
    · exact List.mem_cons_of_mem _ (List.mem_cons_of_mem _ (List.mem_cons_of_mem _ (List.mem_cons_of_mem _ (List.mem_cons_self ..))))
    rcases List.mem_cons.1 hx with rfl | hx
    · exact List.mem_cons_of_mem _ (List.mem_cons_of_mem _ (List.mem_cons_of_mem _ (List.mem_cons_of_mem _ (List.mem_cons_of_mem _ (List.mem_cons_self ..)))))
    rcases List.mem_cons.1 hx with rfl | hx
    · exact List.mem_cons_of_mem _ (List.mem_cons_of_mem _ (List.mem_cons_of_mem _ (List.mem_cons_of_mem _ (List.mem_cons_of_mem _ (List.mem_cons_of_mem _ (List.mem_cons_self ..))))))
    rcases List.mem_cons.1 hx with rfl | hx
    · exact List.mem_cons_of_mem _ (List.mem_cons_of_mem _ (List.mem_cons_of_mem _ (List.mem_cons_of_mem _ (List.mem_cons_of_mem _ (List.mem_cons_of_mem _ (List.mem_cons_of_mem _ (List.mem_cons_self ..)))))))
    rcases List.mem_cons.1 hx with rfl | hx
    · exact List.mem_cons_of_mem _ (List.mem_cons_of_mem _ (List.mem_cons_of_mem _ (List.mem_cons_of_mem _ (List.mem_cons_of_mem _ (List.mem_cons_of_mem _ (List.mem_cons_of_mem _ (List.mem_cons_of_mem _ (List.mem_cons_self ..))))))))
    rcases List.mem_cons.1 hx with rfl | hx
    · exact List.mem_cons_of_mem _ (List.mem_cons_of_mem _ (List.mem_cons_of_mem _ (List.mem_cons_of_mem _ (List.mem_cons_of_mem _ (List.mem_cons_of_mem _ (List.mem_cons_of_mem _ (List.mem_cons_of_mem _ (List.mem_cons_of_mem _ (List.mem_cons_self ..)))))))))
    rcases List.mem_cons.1 hx with rfl | hx
    · exact List.mem_cons_of_mem _ (List.mem_cons_of_mem _ (List.mem_cons_of_mem _ (List.mem_cons_of_mem _ (List.mem_cons_of_mem _ (List.mem_cons_of_mem _ (List.mem_cons_of_mem _ (List.mem_cons_of_mem _ (List.mem_cons_of_mem _ (List.mem_cons_of_mem _ (List.mem_cons_self ..))))))))))
    rcases List.mem_cons.1 hx with rfl | hx
    · exact List.mem_cons_of_mem _ (List.mem_cons_of_mem _ (List.mem_cons_of_mem _ (List.mem_cons_of_mem _ (List.mem_cons_of_mem _ (List.mem_cons_of_mem _ (List.mem_cons_of_mem _ (List.mem_cons_of_mem _ (List.mem_cons_of_mem _ (List.mem_cons_of_mem _ (List.mem_cons_of_mem _ (List.mem_cons_of_mem _ (List.mem_cons_self ..))))))))))))
    rcases List.mem_cons.1 hx with rfl | hx
    · exact List.mem_cons_of_mem _ (List.mem_cons_of_mem _ (List.mem_cons_of_mem _ (List.mem_cons_of_mem _ (List.mem_cons_of_mem _ (List.mem_cons_of_mem _ (List.mem_cons_of_mem _ (List.mem_cons_of_mem _ (List.mem_cons_of_mem _ (List.mem_cons_of_mem _ (List.mem_cons_of_mem _ (List.mem_cons_of_mem _ (List.mem_cons_of_mem _ (List.mem_cons_self ..)))))))))))))
    rcases List.mem_cons.1 hx with rfl | hx
    · exact List.mem_cons_of_mem _ (List.mem_cons_of_mem _ (List.mem_cons_of_mem _ (List.mem_cons_of_mem _ (List.mem_cons_of_mem _ (List.mem_cons_of_mem _ (List.mem_cons_of_mem _ (List.mem_cons_of_mem _ (List.mem_cons_of_mem _ (List.mem_cons_of_mem _ (List.mem_cons_of_mem _ (List.mem_cons_of_mem _ (List.mem_cons_of_mem _ (List.mem_cons_of_mem _ (List.mem_cons_self ..))))))))))))))
    rcases List.mem_cons.1 hx with rfl | hx
    · exact List.mem_cons_of_mem _ (List.mem_cons_of_mem _ (List.mem_cons_of_mem _ (List.mem_cons_of_mem _ (List.mem_cons_of_mem _ (List.mem_cons_of_mem _ (List.mem_cons_of_mem _ (List.mem_cons_of_mem _ (List.mem_cons_of_mem _ (List.mem_cons_of_mem _ (List.mem_cons_of_mem _ (List.mem_cons_of_mem _ (List.mem_cons_of_mem _ (List.mem_cons_of_mem _ (List.mem_cons_of_mem _ (List.mem_cons_self ..)))))))))))))))
    cases hx
  clear hk
  have hk := hk2
  clear hk2
  refine drop_k hO.o3 hk (by decide) (by repeat' (first | exact far_nil _ | refine far_cons (by decide) ?_)) (v := .int .u32 (uAdd (hh.a) (s.a))) (fun o ho => do_assign ho (hk.at (List.mem_cons_self ..))) ?_
  clear hk; intro a hk
  refine drop_end hO.len ?_
  refine h _ ?_
  refine ⟨hk.1, hk.2.1, fun x hx => hk.2.2 x ?_⟩
  rcases List.mem_cons.1 hx with rfl | hx
  · exact List.mem_cons_of_mem _ (List.mem_cons_of_mem _ (List.mem_cons_of_mem _ (List.mem_cons_of_mem _ (List.mem_cons_self ..))))
  rcases List.mem_cons.1 hx with rfl | hx
  · exact List.mem_cons_of_mem _ (List.mem_cons_of_mem _ (List.mem_cons_of_mem _ (List.mem_cons_of_mem _ (List.mem_cons_of_mem _ (List.mem_cons_self ..)))))
  rcases List.mem_cons.1 hx with rfl | hx
  · exact List.mem_cons_of_mem _ (List.mem_cons_of_mem _ (List.mem_cons_of_mem _ (List.mem_cons_of_mem _ (List.mem_cons_of_mem _ (List.mem_cons_of_mem _ (List.mem_cons_self ..))))))
  rcases List.mem_cons.1 hx with rfl | hx
  · exact List.mem_cons_of_mem _ (List.mem_cons_of_mem _ (List.mem_cons_of_mem _ (List.mem_cons_of_mem _ (List.mem_cons_of_mem _ (List.mem_cons_of_mem _ (List.mem_cons_of_mem _ (List.mem_cons_self ..)))))))
  rcases List.mem_cons.1 hx with rfl | hx
  · exact List.mem_cons_of_mem _ (List.mem_cons_of_mem _ (List.mem_cons_of_mem _ (List.mem_cons_of_mem _ (List.mem_cons_of_mem _ (List.mem_cons_of_mem _ (List.mem_cons_of_mem _ (List.mem_cons_of_mem _ (List.mem_cons_self ..))))))))
  rcases List.mem_cons.1 hx with rfl | hx
  · exact List.mem_cons_of_mem _ (List.mem_cons_of_mem _ (List.mem_cons_of_mem _ (List.mem_cons_of_mem _ (List.mem_cons_of_mem _ (List.mem_cons_of_mem _ (List.mem_cons_of_mem _ (List.mem_cons_of_mem _ (List.mem_cons_of_mem _ (List.mem_cons_self ..)))))))))
  rcases List.mem_cons.1 hx with rfl | hx
  · exact List.mem_cons_of_mem _ (List.mem_cons_of_mem _ (List.mem_cons_of_mem _ (List.mem_cons_of_mem _ (List.mem_cons_of_mem _ (List.mem_cons_of_mem _ (List.mem_cons_of_mem _ (List.mem_cons_of_mem _ (List.mem_cons_of_mem _ (List.mem_cons_of_mem _ (List.mem_cons_self ..))))))))))
  rcases List.mem_cons.1 hx with rfl | hx
  · exact List.mem_cons_of_mem _ (List.mem_cons_of_mem _ (List.mem_cons_of_mem _ (List.mem_cons_of_mem _ (List.mem_cons_of_mem _ (List.mem_cons_of_mem _ (List.mem_cons_of_mem _ (List.mem_cons_of_mem _ (List.mem_cons_of_mem _ (List.mem_cons_of_mem _ (List.mem_cons_of_mem _ (List.mem_cons_self ..)))))))))))
  rcases List.mem_cons.1 hx with rfl | hx
  · exact List.mem_cons_self ..
  rcases List.mem_cons.1 hx with rfl | hx
  · exact List.mem_cons_of_mem _ (List.mem_cons_of_mem _ (List.mem_cons_of_mem _ (List.mem_cons_of_mem _ (List.mem_cons_of_mem _ (List.mem_cons_of_mem _ (List.mem_cons_of_mem _ (List.mem_cons_of_mem _ (List.mem_cons_of_mem _ (List.mem_cons_of_mem _ (List.mem_cons_of_mem _ (List.mem_cons_of_mem _ (List.mem_cons_self ..))))))))))))
  rcases List.mem_cons.1 hx with rfl | hx
  · exact List.mem_cons_of_mem _ (List.mem_cons_of_mem _ (List.mem_cons_of_mem _ (List.mem_cons_of_mem _ (List.mem_cons_of_mem _ (List.mem_cons_of_mem _ (List.mem_cons_of_mem _ (List.mem_cons_of_mem _ (List.mem_cons_of_mem _ (List.mem_cons_of_mem _ (List.mem_cons_of_mem _ (List.mem_cons_of_mem _ (List.mem_cons_of_mem _ (List.mem_cons_self ..)))))))))))))
  rcases List.mem_cons.1 hx with rfl | hx
  · exact List.mem_cons_of_mem _ (List.mem_cons_of_mem _ (List.mem_cons_of_mem _ (List.mem_cons_of_mem _ (List.mem_cons_of_mem _ (List.mem_cons_of_mem _ (List.mem_cons_of_mem _ (List.mem_cons_of_mem _ (List.mem_cons_of_mem _ (List.mem_cons_of_mem _ (List.mem_cons_of_mem _ (List.mem_cons_of_mem _ (List.mem_cons_of_mem _ (List.mem_cons_of_mem _ (List.mem_cons_self ..))))))))))))))
  rcases List.mem_cons.1 hx with rfl | hx
  · exact List.mem_cons_of_mem _ (List.mem_cons_of_mem _ (List.mem_cons_of_mem _ (List.mem_cons_of_mem _ (List.mem_cons_of_mem _ (List.mem_cons_of_mem _ (List.mem_cons_of_mem _ (List.mem_cons_of_mem _ (List.mem_cons_of_mem _ (List.mem_cons_of_mem _ (List.mem_cons_of_mem _ (List.mem_cons_of_mem _ (List.mem_cons_of_mem _ (List.mem_cons_of_mem _ (List.mem_cons_of_mem _ (List.mem_cons_self ..)))))))))))))))
  cases hx
structure Rg44 (l : List Oper) : Prop where
  len : l.length = 4
  o0 : (l[0]?).map coreO = some (.move (.tmp 6), (some 358), none)
  o1 : (l[1]?).map coreO = some (.move (.tmp 13), (some 359), none)
  o2 : (l[2]?).map coreO = some (.binOp .add 43 (.tmp 358) (.tmp 359) 43, (some 360), none)
  o3 : (l[3]?).map coreO = some (.assign (.tmp 360), (some 6), none)
theorem Rg44_ok {Q : Exit → Act → World → Prop} {id : Nat} {l : List Oper} {a : Act} {w : World} {g gw pn pc : Nat} {pa : Option Addr} {hh : Hs} {s : St} (hO : Rg44 l)  (hk : Keeps 397 ((4, .pointer (some ⟨gw, 0, none⟩)) :: (12, .int .u32 (s.a)) :: (13, .int .u32 (s.b)) :: (14, .int .u32 (s.c)) :: (15, .int .u32 (s.d)) :: (16, .int .u32 (s.e)) :: (1, .slice pa pn pc) :: (0, .pointer (some ⟨g, 0, none⟩)) :: (5, .int .u32 (uAdd (hh.a) (s.a))) :: (6, .int .u32 (hh.b)) :: (7, .int .u32 (hh.c)) :: (8, .int .u32 (hh.d)) :: (9, .int .u32 (hh.e)) :: []) a)
    (h : ∀ a', Keeps 397 ((4, .pointer (some ⟨gw, 0, none⟩)) :: (12, .int .u32 (s.a)) :: (13, .int .u32 (s.b)) :: (14, .int .u32 (s.c)) :: (15, .int .u32 (s.d)) :: (16, .int .u32 (s.e)) :: (1, .slice pa pn pc) :: (0, .pointer (some ⟨g, 0, none⟩)) :: (5, .int .u32 (uAdd (hh.a) (s.a))) :: (6, .int .u32 (uAdd (hh.b) (s.b))) :: (7, .int .u32 (hh.c)) :: (8, .int .u32 (hh.d)) :: (9, .int .u32 (hh.e)) :: []) a' → Q .normal a' w) : (Code.region id l.toArray false).wp Try.prog Q a w := by
  refine lit_start ?_
  refine drop_k hO.o0 hk (by decide) (by repeat' (first | exact far_nil _ | refine far_cons (by decide) ?_)) (v := .int .u32 (hh.b)) (fun o ho => do_move ho (hk.at (List.mem_cons_of_mem _ (List.mem_cons_of_mem _ (List.mem_cons_of_mem _ (List.mem_cons_of_mem _ (List.mem_cons_of_mem _ (List.mem_cons_of_mem _ (List.mem_cons_of_mem _ (List.mem_cons_of_mem _ (List.mem_cons_of_mem _ (List.mem_cons_self ..)))))))))))) ?_
  clear hk; intro a hk
  refine drop_k hO.o1 hk (by decide) (by repeat' (first | exact far_nil _ | refine far_cons (by decide) ?_)) (v := .int .u32 (s.b)) (fun o ho => do_move ho (hk.at (List.mem_cons_of_mem _ (List.mem_cons_of_mem _ (List.mem_cons_of_mem _ (List.mem_cons_self ..)))))) ?_
  clear hk; intro a hk
  refine drop_k hO.o2 hk (by decide) (by repeat' (first | exact far_nil _ | refine far_cons (by decide) ?_)) (v := .int .u32 (uAdd (hh.b) (s.b))) (fun o ho => do_add ho (hk.at (List.mem_cons_of_mem _ (List.mem_cons_self ..))) (hk.at (List.mem_cons_self ..))) ?_
  clear hk; intro a hk
  have hk2 : Keeps 397 ((360, .int .u32 (uAdd (hh.b) (s.b))) :: (359, .int .u32 (s.b)) :: (358, .int .u32 (hh.b)) :: (4, .pointer (some ⟨gw, 0, none⟩)) :: (12, .int .u32 (s.a)) :: (13, .int .u32 (s.b)) :: (14, .int .u32 (s.c)) :: (15, .int .u32 (s.d)) :: (16, .int .u32 (s.e)) :: (1, .slice pa pn pc) :: (0, .pointer (some ⟨g, 0, none⟩)) :: (5, .int .u32 (uAdd (hh.a) (s.a))) :: (7, .int .u32 (hh.c)) :: (8, .int .u32 (hh.d)) :: (9, .int .u32 (hh.e)) :: []) a := by
    refine ⟨hk.1, hk.2.1, fun x hx => hk.2.2 x ?_⟩
    rcases List.mem_cons.1 hx with rfl | hx
    · exact List.mem_cons_self ..
    rcases List.mem_cons.1 hx with rfl | hx
    · exact List.mem_cons_of_mem _ (List.mem_cons_self ..)
    rcases List.mem_cons.1 hx with rfl | hx
    · exact List.mem_cons_of_mem _ (List.mem_cons_of_mem _ (List.mem_cons_self ..))
    rcases List.mem_cons.1 hx with rfl | hx
    · exact List.mem_cons_of_mem _ (List.mem_cons_of_mem _ (List.mem_cons_of_mem _ (List.mem_cons_self ..)))
    rcases List.mem_cons.1 hx with rfl | hx
    · exact List.mem_cons_of_mem _ (List.mem_cons_of_mem _ (List.mem_cons_of_mem _ (List.mem_cons_of_mem _ (List.mem_cons_self ..))))
    rcases List.mem_cons.1 hx with rfl | hx
    · exact List.mem_cons_of_mem _ (List.mem_cons_of_mem _ (List.mem_cons_of_mem _ (List.mem_cons_of_mem _ (List.mem_cons_of_mem _ (List.mem_cons_self ..)))))
    rcases List.mem_cons.1 hx with rfl | hx
    · exact List.mem_cons_of_mem _ (List.mem_cons_of_mem _ (List.mem_cons_of_mem _ (List.mem_cons_of_mem _ (List.mem_cons_of_mem _ (List.mem_cons_of_mem _ (List.mem_cons_self ..))))))
    rcases List.mem_cons.1 hx with rfl | hx
    · exact List.mem_cons_of_mem _ (List.mem_cons_of_mem _ (List.mem_cons_of_mem _ (List.mem_cons_of_mem _ (List.mem_cons_of_mem _ (List.mem_cons_of_mem _ (List.mem_cons_of_mem _ (List.mem_cons_self ..)))))))
    rcases List.mem_cons.1 hx with rfl | hx
    · exact List.mem_cons_of_mem _ (List.mem_cons_of_mem _ (List.mem_cons_of_mem _ (List.mem_cons_of_mem _ (List.mem_cons_of_mem _ (List.mem_cons_of_mem _ (List.mem_cons_of_mem _ (List.mem_cons_of_mem _ (List.mem_cons_self ..))))))))
    rcases List.mem_cons.1 hx with rfl | hx
    · exact List.mem_cons_of_mem _ (List.mem_cons_of_mem _ (List.mem_cons_of_mem _ (List.mem_cons_of_mem _ (List.mem_cons_of_mem _ (List.mem_cons_of_mem _ (List.mem_cons_of_mem _ (List.mem_cons_of_mem _ (List.mem_cons_of_mem _ (List.mem_cons_self ..)))))))))
    rcases List.mem_cons.1 hx with rfl | hx
    · exact List.mem_cons_of_mem _ (List.mem_cons_of_mem _ (List.mem_cons_of_mem _ (List.mem_cons_of_mem _ (List.mem_cons_of_mem _ (List.mem_cons_of_mem _ (List.mem_cons_of_mem _ (List.mem_cons_of_mem _ (List.mem_cons_of_mem _ (List.mem_cons_of_mem _ (List.mem_cons_self ..))))))))))
    rcases List.mem_cons.1 hx with rfl | hx
    · exact List.mem_cons_of_mem _ (List.mem_cons_of_mem _ (List.mem_cons_of_mem _ (List.mem_cons_of_mem _ (List.mem_cons_of_mem _ (List.mem_cons_of_mem _ (List.mem_cons_of_mem _ (List.mem_cons_of_mem _ (List.mem_cons_of_mem _ (List.mem_cons_of_mem _ (List.mem_cons_of_mem _ (List.mem_cons_self ..)))))))))))
    rcases List.mem_cons.1 hx with rfl | hx
    · exact List.mem_cons_of_mem _ (List.mem_cons_of_mem _ (List.mem_cons_of_mem _ (List.mem_cons_of_mem _ (List.mem_cons_of_mem _ (List.mem_cons_of_mem _ (List.mem_cons_of_mem _ (List.mem_cons_of_mem _ (List.mem_cons_of_mem _ (List.mem_cons_of_mem _ (List.mem_cons_of_mem _ (List.mem_cons_of_mem _ (List.mem_cons_of_mem _ (List.mem_cons_self ..)))))))))))))
    rcases List.mem_cons.1 hx with rfl | hx
    · exact List.mem_cons_of_mem _ (List.mem_cons_of_mem _ (List.mem_cons_of_mem _ (List.mem_cons_of_mem _ (List.mem_cons_of_mem _ (List.mem_cons_of_mem _ (List.mem_cons_of_mem _ (List.mem_cons_of_mem _ (List.mem_cons_of_mem _ (List.mem_cons_of_mem _ (List.mem_cons_of_mem _ (List.mem_cons_of_mem _ (List.mem_cons_of_mem _ (List.mem_cons_of_mem _ (List.mem_cons_self ..))))))))))))))
    rcases List.mem_cons.1 hx with rfl | hx
    · exact List.mem_cons_of_mem _ (List.mem_cons_of_mem _ (List.mem_cons_of_mem _ (List.mem_cons_of_mem _ (List.mem_cons_of_mem _ (List.mem_cons_of_mem _ (List.mem_cons_of_mem _ (List.mem_cons_of_mem _ (List.mem_cons_of_mem _ (List.mem_cons_of_mem _ (List.mem_cons_of_mem _ (List.mem_cons_of_mem _ (List.mem_cons_of_mem _ (List.mem_cons_of_mem _ (List.mem_cons_of_mem _ (List.mem_cons_self ..)))))))))))))))
    cases hx
  clear hk
  have hk := hk2
  clear hk2
  refine drop_k hO.o3 hk (by decide) (by repeat' (first | exact far_nil _ | refine far_cons (by decide) ?_)) (v := .int .u32 (uAdd (hh.b) (s.b))) (fun o ho => do_assign ho (hk.at (List.mem_cons_self ..))) ?_
  clear hk; intro a hk
  refine drop_end hO.len ?_
  refine h _ ?_
  refine ⟨hk.1, hk.2.1, fun x hx => hk.2.2 x ?_⟩
  rcases List.mem_cons.1 hx with rfl | hx
  · exact List.mem_cons_of_mem _ (List.mem_cons_of_mem _ (List.mem_cons_of_mem _ (List.mem_cons_of_mem _ (List.mem_cons_self ..))))
  rcases List.mem_cons.1 hx with rfl | hx
  · exact List.mem_cons_of_mem _ (List.mem_cons_of_mem _ (List.mem_cons_of_mem _ (List.mem_cons_of_mem _ (List.mem_cons_of_mem _ (List.mem_cons_self ..)))))
  rcases List.mem_cons.1 hx with rfl | hx
  · exact List.mem_cons_of_mem _ (List.mem_cons_of_mem _ (List.mem_cons_of_mem _ (List.mem_cons_of_mem _ (List.mem_cons_of_mem _ (List.mem_cons_of_mem _ (List.mem_cons_self ..))))))
  rcases List.mem_cons.1 hx with rfl | hx
  · exact List.mem_cons_of_mem _ (List.mem_cons_of_mem _ (List.mem_cons_of_mem _ (List.mem_cons_of_mem _ (List.mem_cons_of_mem _ (List.mem_cons_of_mem _ (List.mem_cons_of_mem _ (List.mem_cons_self ..)))))))
  rcases List.mem_cons.1 hx with rfl | hx
  · exact List.mem_cons_of_mem _ (List.mem_cons_of_mem _ (List.mem_cons_of_mem _ (List.mem_cons_of_mem _ (List.mem_cons_of_mem _ (List.mem_cons_of_mem _ (List.mem_cons_of_mem _ (List.mem_cons_of_mem _ (List.mem_cons_self ..))))))))
  rcases List.mem_cons.1 hx with rfl | hx
  · exact List.mem_cons_of_mem _ (List.mem_cons_of_mem _ (List.mem_cons_of_mem _ (List.mem_cons_of_mem _ (List.mem_cons_of_mem _ (List.mem_cons_of_mem _ (List.mem_cons_of_mem _ (List.mem_cons_of_mem _ (List.mem_cons_of_mem _ (List.mem_cons_self ..)))))))))
  rcases List.mem_cons.1 hx with rfl | hx
  · exact List.mem_cons_of_mem _ (List.mem_cons_of_mem _ (List.mem_cons_of_mem _ (List.mem_cons_of_mem _ (List.mem_cons_of_mem _ (List.mem_cons_of_mem _ (List.mem_cons_of_mem _ (List.mem_cons_of_mem _ (List.mem_cons_of_mem _ (List.mem_cons_of_mem _ (List.mem_cons_self ..))))))))))
  rcases List.mem_cons.1 hx with rfl | hx
  · exact List.mem_cons_of_mem _ (List.mem_cons_of_mem _ (List.mem_cons_of_mem _ (List.mem_cons_of_mem _ (List.mem_cons_of_mem _ (List.mem_cons_of_mem _ (List.mem_cons_of_mem _ (List.mem_cons_of_mem _ (List.mem_cons_of_mem _ (List.mem_cons_of_mem _ (List.mem_cons_of_mem _ (List.mem_cons_self ..)))))))))))
  rcases List.mem_cons.1 hx with rfl | hx
  · exact List.mem_cons_of_mem _ (List.mem_cons_of_mem _ (List.mem_cons_of_mem _ (List.mem_cons_of_mem _ (List.mem_cons_of_mem _ (List.mem_cons_of_mem _ (List.mem_cons_of_mem _ (List.mem_cons_of_mem _ (List.mem_cons_of_mem _ (List.mem_cons_of_mem _ (List.mem_cons_of_mem _ (List.mem_cons_of_mem _ (List.mem_cons_self ..))))))))))))
  rcases List.mem_cons.1 hx with rfl | hx
  · exact List.mem_cons_self ..
  rcases List.mem_cons.1 hx with rfl | hx
  · exact List.mem_cons_of_mem _ (List.mem_cons_of_mem _ (List.mem_cons_of_mem _ (List.mem_cons_of_mem _ (List.mem_cons_of_mem _ (List.mem_cons_of_mem _ (List.mem_cons_of_mem _ (List.mem_cons_of_mem _ (List.mem_cons_of_mem _ (List.mem_cons_of_mem _ (List.mem_cons_of_mem _ (List.mem_cons_of_mem _ (List.mem_cons_of_mem _ (List.mem_cons_self ..)))))))))))))
  rcases List.mem_cons.1 hx with rfl | hx
  · exact List.mem_cons_of_mem _ (List.mem_cons_of_mem _ (List.mem_cons_of_mem _ (List.mem_cons_of_mem _ (List.mem_cons_of_mem _ (List.mem_cons_of_mem _ (List.mem_cons_of_mem _ (List.mem_cons_of_mem _ (List.mem_cons_of_mem _ (List.mem_cons_of_mem _ (List.mem_cons_of_mem _ (List.mem_cons_of_mem _ (List.mem_cons_of_mem _ (List.mem_cons_of_mem _ (List.mem_cons_self ..))))))))))))))
  rcases List.mem_cons.1 hx with rfl | hx
  · exact List.mem_cons_of_mem _ (List.mem_cons_of_mem _ (List.mem_cons_of_mem _ (List.mem_cons_of_mem _ (List.mem_cons_of_mem _ (List.mem_cons_of_mem _ (List.mem_cons_of_mem _ (List.mem_cons_of_mem _ (List.mem_cons_of_mem _ (List.mem_cons_of_mem _ (List.mem_cons_of_mem _ (List.mem_cons_of_mem _ (List.mem_cons_of_mem _ (List.mem_cons_of_mem _ (List.mem_cons_of_mem _ (List.mem_cons_self ..)))))))))))))))
  cases hx
structure Rg45 (l : List Oper) : Prop where
  len : l.length = 4
  o0 : (l[0]?).map coreO = some (.move (.tmp 7), (some 361), none)
  o1 : (l[1]?).map coreO = some (.move (.tmp 14), (some 362), none)
  o2 : (l[2]?).map coreO = some (.binOp .add 43 (.tmp 361) (.tmp 362) 43, (some 363), none)
  o3 : (l[3]?).map coreO = some (.assign (.tmp 363), (some 7), none)
theorem Rg45_ok {Q : Exit → Act → World → Prop} {id : Nat} {l : List Oper} {a : Act} {w : World} {g gw pn pc : Nat} {pa : Option Addr} {hh : Hs} {s : St} (hO : Rg45 l)  (hk : Keeps 397 ((4, .pointer (some ⟨gw, 0, none⟩)) :: (12, .int .u32 (s.a)) :: (13, .int .u32 (s.b)) :: (14, .int .u32 (s.c)) :: (15, .int .u32 (s.d)) :: (16, .int .u32 (s.e)) :: (1, .slice pa pn pc) :: (0, .pointer (some ⟨g, 0, none⟩)) :: (5, .int .u32 (uAdd (hh.a) (s.a))) :: (6, .int .u32 (uAdd (hh.b) (s.b))) :: (7, .int .u32 (hh.c)) :: (8, .int .u32 (hh.d)) :: (9, .int .u32 (hh.e)) :: []) a)
    (h : ∀ a', Keeps 397 ((4, .pointer (some ⟨gw, 0, none⟩)) :: (12, .int .u32 (s.a)) :: (13, .int .u32 (s.b)) :: (14, .int .u32 (s.c)) :: (15, .int .u32 (s.d)) :: (16, .int .u32 (s.e)) :: (1, .slice pa pn pc) :: (0, .pointer (some ⟨g, 0, none⟩)) :: (5, .int .u32 (uAdd (hh.a) (s.a))) :: (6, .int .u32 (uAdd (hh.b) (s.b))) :: (7, .int .u32 (uAdd (hh.c) (s.c))) :: (8, .int .u32 (hh.d)) :: (9, .int .u32 (hh.e)) :: []) a' → Q .normal a' w) : (Code.region id l.toArray false).wp Try.prog Q a w := by
  refine lit_start ?_
  refine drop_k hO.o0 hk (by decide) (by repeat' (first | exact far_nil _ | refine far_cons (by decide) ?_)) (v := .int .u32 (hh.c)) (fun o ho => do_move ho (hk.at (List.mem_cons_of_mem _ (List.mem_cons_of_mem _ (List.mem_cons_of_mem _ (List.mem_cons_of_mem _ (List.mem_cons_of_mem _ (List.mem_cons_of_mem _ (List.mem_cons_of_mem _ (List.mem_cons_of_mem _ (List.mem_cons_of_mem _ (List.mem_cons_of_mem _ (List.mem_cons_self ..))))))))))))) ?_
  clear hk; intro a hk
  refine drop_k hO.o1 hk (by decide) (by repeat' (first | exact far_nil _ | refine far_cons (by decide) ?_)) (v := .int .u32 (s.c)) (fun o ho => do_move ho (hk.at (List.mem_cons_of_mem _ (List.mem_cons_of_mem _ (List.mem_cons_of_mem _ (List.mem_cons_of_mem _ (List.mem_cons_self ..))))))) ?_
  clear hk; intro a hk
  refine drop_k hO.o2 hk (by decide) (by repeat' (first | exact far_nil _ | refine far_cons (by decide) ?_)) (v := .int .u32 (uAdd (hh.c) (s.c))) (fun o ho => do_add ho (hk.at (List.mem_cons_of_mem _ (List.mem_cons_self ..))) (hk.at (List.mem_cons_self ..))) ?_
  clear hk; intro a hk
  have hk2 : Keeps 397 ((363, .int .u32 (uAdd (hh.c) (s.c))) :: (362, .int .u32 (s.c)) :: (361, .int .u32 (hh.c)) :: (4, .pointer (some ⟨gw, 0, none⟩)) :: (12, .int .u32 (s.a)) :: (13, .int .u32 (s.b)) :: (14, .int .u32 (s.c)) :: (15, .int .u32 (s.d)) :: (16, .int .u32 (s.e)) :: (1, .slice pa pn pc) :: (0, .pointer (some ⟨g, 0, none⟩)) :: (5, .int .u32 (uAdd (hh.a) (s.a))) :: (6, .int .u32 (uAdd (hh.b) (s.b))) :: (8, .int .u32 (hh.d)) :: (9, .int .u32 (hh.e)) :: []) a := by
    refine ⟨hk.1, hk.2.1, fun x hx => hk.2.2 x ?_⟩
    rcases List.mem_cons.1 hx with rfl | hx
    · exact List.mem_cons_self ..
    rcases List.mem_cons.1 hx with rfl | hx
    · exact List.mem_cons_of_mem _ (List.mem_cons_self ..)
    rcases List.mem_cons.1 hx with rfl | hx
    · exact List.mem_cons_of_mem _ (List.mem_cons_of_mem _ (List.mem_cons_self ..))
    rcases List.mem_cons.1 hx with rfl | hx
    · exact List.mem_cons_of_mem _ (List.mem_cons_of_mem _ (List.mem_cons_of_mem _ (List.mem_cons_self ..)))
    rcases List.mem_cons.1 hx with rfl | hx
    · exact List.mem_cons_of_mem _ (List.mem_cons_of_mem _ (List.mem_cons_of_mem _ (List.mem_cons_of_mem _ (List.mem_cons_self ..))))
    rcases List.mem_cons.1 hx with rfl | hx
    · exact List.mem_cons_of_mem _ (List.mem_cons_of_mem _ (List.mem_cons_of_mem _ (List.mem_cons_of_mem _ (List.mem_cons_of_mem _ (List.mem_cons_self ..)))))
    rcases List.mem_cons.1 hx with rfl | hx
    · exact List.mem_cons_of_mem _ (List.mem_cons_of_mem _ (List.mem_cons_of_mem _ (List.mem_cons_of_mem _ (List.mem_cons_of_mem _ (List.mem_cons_of_mem _ (List.mem_cons_self ..))))))
    rcases List.mem_cons.1 hx with rfl | hx
    · exact List.mem_cons_of_mem _ (List.mem_cons_of_mem _ (List.mem_cons_of_mem _ (List.mem_cons_of_mem _ (List.mem_cons_of_mem _ (List.mem_cons_of_mem _ (List.mem_cons_of_mem _ (List.mem_cons_self ..)))))))
    rcases List.mem_cons.1 hx with rfl | hx
    · exact List.mem_cons_of_mem _ (List.mem_cons_of_mem _ (List.mem_cons_of_mem _ (List.mem_cons_of_mem _ (List.mem_cons_of_mem _ (List.mem_cons_of_mem _ (List.mem_cons_of_mem _ (List.mem_cons_of_mem _ (List.mem_cons_self ..))))))))
    rcases List.mem_cons.1 hx with rfl | hx
    · exact List.mem_cons_of_mem _ (List.mem_cons_of_mem _ (List.mem_cons_of_mem _ (List.mem_cons_of_mem _ (List.mem_cons_of_mem _ (List.mem_cons_of_mem _ (List.mem_cons_of_mem _ (List.mem_cons_of_mem _ (List.mem_cons_of_mem _ (List.mem_cons_self ..)))))))))
    rcases List.mem_cons.1 hx with rfl | hx
    · exact List.mem_cons_of_mem _ (List.mem_cons_of_mem _ (List.mem_cons_of_mem _ (List.mem_cons_of_mem _ (List.mem_cons_of_mem _ (List.mem_cons_of_mem _ (List.mem_cons_of_mem _ (List.mem_cons_of_mem _ (List.mem_cons_of_mem _ (List.mem_cons_of_mem _ (List.mem_cons_self ..))))))))))
    rcases List.mem_cons.1 hx with rfl | hx
    · exact List.mem_cons_of_mem _ (List.mem_cons_of_mem _ (List.mem_cons_of_mem _ (List.mem_cons_of_mem _ (List.mem_cons_of_mem _ (List.mem_cons_of_mem _ (List.mem_cons_of_mem _ (List.mem_cons_of_mem _ (List.mem_cons_of_mem _ (List.mem_cons_of_mem _ (List.mem_cons_of_mem _ (List.mem_cons_self ..)))))))))))
    rcases List.mem_cons.1 hx with rfl | hx
    · exact List.mem_cons_of_mem _ (List.mem_cons_of_mem _ (List.mem_cons_of_mem _ (List.mem_cons_of_mem _ (List.mem_cons_of_mem _ (List.mem_cons_of_mem _ (List.mem_cons_of_mem _ (List.mem_cons_of_mem _ (List.mem_cons_of_mem _ (List.mem_cons_of_mem _ (List.mem_cons_of_mem _ (List.mem_cons_of_mem _ (List.mem_cons_self ..))))))))))))
    rcases List.mem_cons.1 hx with rfl | hx
    · exact List.mem_cons_of_mem _ (List.mem_cons_of_mem _ (List.mem_cons_of_mem _ (List.mem_cons_of_mem _ (List.mem_cons_of_mem _ (List.mem_cons_of_mem _ (List.mem_cons_of_mem _ (List.mem_cons_of_mem _ (List.mem_cons_of_mem _ (List.mem_cons_of_mem _ (List.mem_cons_of_mem _ (List.mem_cons_of_mem _ (List.mem_cons_of_mem _ (List.mem_cons_of_mem _ (List.mem_cons_self ..))))))))))))))
    rcases List.mem_cons.1 hx with rfl | hx
    · exact List.mem_cons_of_mem _ (List.mem_cons_of_mem _ (List.mem_cons_of_mem _ (List.mem_cons_of_mem _ (List.mem_cons_of_mem _ (List.mem_cons_of_mem _ (List.mem_cons_of_mem _ (List.mem_cons_of_mem _ (List.mem_cons_of_mem _ (List.mem_cons_of_mem _ (List.mem_cons_of_mem _ (List.mem_cons_of_mem _ (List.mem_cons_of_mem _ (List.mem_cons_of_mem _ (List.mem_cons_of_mem _ (List.mem_cons_self ..)))))))))))))))
    cases hx
  clear hk
  have hk := hk2
  clear hk2
  refine drop_k hO.o3 hk (by decide) (by repeat' (first | exact far_nil _ | refine far_cons (by decide) ?_)) (v := .int .u32 (uAdd (hh.c) (s.c))) (fun o ho => do_assign ho (hk.at (List.mem_cons_self ..))) ?_
  clear hk; intro a hk
  refine drop_end hO.len ?_
  refine h _ ?_
  refine ⟨hk.1, hk.2.1, fun x hx => hk.2.2 x ?_⟩
  rcases List.mem_cons.1 hx with rfl | hx
  · exact List.mem_cons_of_mem _ (List.mem_cons_of_mem _ (List.mem_cons_of_mem _ (List.mem_cons_of_mem _ (List.mem_cons_self ..))))
  rcases List.mem_cons.1 hx with rfl | hx
  · exact List.mem_cons_of_mem _ (List.mem_cons_of_mem _ (List.mem_cons_of_mem _ (List.mem_cons_of_mem _ (List.mem_cons_of_mem _ (List.mem_cons_self ..)))))
  rcases List.mem_cons.1 hx with rfl | hx
  · exact List.mem_cons_of_mem _ (List.mem_cons_of_mem _ (List.mem_cons_of_mem _ (List.mem_cons_of_mem _ (List.mem_cons_of_mem _ (List.mem_cons_of_mem _ (List.mem_cons_self ..))))))
  rcases List.mem_cons.1 hx with rfl | hx
  · exact List.mem_cons_of_mem _ (List.mem_cons_of_mem _ (List.mem_cons_of_mem _ (List.mem_cons_of_mem _ (List.mem_cons_of_mem _ (List.mem_cons_of_mem _ (List.mem_cons_of_mem _ (List.mem_cons_self ..)))))))
  rcases List.mem_cons.1 hx with rfl | hx
  · exact List.mem_cons_of_mem _ (List.mem_cons_of_mem _ (List.mem_cons_of_mem _ (List.mem_cons_of_mem _ (List.mem_cons_of_mem _ (List.mem_cons_of_mem _ (List.mem_cons_of_mem _ (List.mem_cons_of_mem _ (List.mem_cons_self ..))))))))
  rcases List.mem_cons.1 hx with rfl | hx
  · exact List.mem_cons_of_mem _ (List.mem_cons_of_mem _ (List.mem_cons_of_mem _ (List.mem_cons_of_mem _ (List.mem_cons_of_mem _ (List.mem_cons_of_mem _ (List.mem_cons_of_mem _ (List.mem_cons_of_mem _ (List.mem_cons_of_mem _ (List.mem_cons_self ..)))))))))
  rcases List.mem_cons.1 hx with rfl | hx
  · exact List.mem_cons_of_mem _ (List.mem_cons_of_mem _ (List.mem_cons_of_mem _ (List.mem_cons_of_mem _ (List.mem_cons_of_mem _ (List.mem_cons_of_mem _ (List.mem_cons_of_mem _ (List.mem_cons_of_mem _ (List.mem_cons_of_mem _ (List.mem_cons_of_mem _ (List.mem_cons_self ..))))))))))
  rcases List.mem_cons.1 hx with rfl | hx
  · exact List.mem_cons_of_mem _ (List.mem_cons_of_mem _ (List.mem_cons_of_mem _ (List.mem_cons_of_mem _ (List.mem_cons_of_mem _ (List.mem_cons_of_mem _ (List.mem_cons_of_mem _ (List.mem_cons_of_mem _ (List.mem_cons_of_mem _ (List.mem_cons_of_mem _ (List.mem_cons_of_mem _ (List.mem_cons_self ..)))))))))))
  rcases List.mem_cons.1 hx with rfl | hx
  · exact List.mem_cons_of_mem _ (List.mem_cons_of_mem _ (List.mem_cons_of_mem _ (List.mem_cons_of_mem _ (List.mem_cons_of_mem _ (List.mem_cons_of_mem _ (List.mem_cons_of_mem _ (List.mem_cons_of_mem _ (List.mem_cons_of_mem _ (List.mem_cons_of_mem _ (List.mem_cons_of_mem _ (List.mem_cons_of_mem _ (List.mem_cons_self ..))))))))))))
  rcases List.mem_cons.1 hx with rfl | hx
  · exact List.mem_cons_of_mem _ (List.mem_cons_of_mem _ (List.mem_cons_of_mem _ (List.mem_cons_of_mem _ (List.mem_cons_of_mem _ (List.mem_cons_of_mem _ (List.mem_cons_of_mem _ (List.mem_cons_of_mem _ (List.mem_cons_of_mem _ (List.mem_cons_of_mem _ (List.mem_cons_of_mem _ (List.mem_cons_of_mem _ (List.mem_cons_of_mem _ (List.mem_cons_self ..)))))))))))))
  rcases List.mem_cons.1 hx with rfl | hx
  · exact List.mem_cons_self ..
  rcases List.mem_cons.1 hx with rfl | hx
  · exact List.mem_cons_of_mem _ (List.mem_cons_of_mem _ (List.mem_cons_of_mem _ (List.mem_cons_of_mem _ (List.mem_cons_of_mem _ (List.mem_cons_of_mem _ (List.mem_cons_of_mem _ (List.mem_cons_of_mem _ (List.mem_cons_of_mem _ (List.mem_cons_of_mem _ (List.mem_cons_of_mem _ (List.mem_cons_of_mem _ (List.mem_cons_of_mem _ (List.mem_cons_of_mem _ (List.mem_cons_self ..))))))))))))))
  rcases List.mem_cons.1 hx with rfl | hx
  · exact List.mem_cons_of_mem _ (List.mem_cons_of_mem _ (List.mem_cons_of_mem _ (List.mem_cons_of_mem _ (List.mem_cons_of_mem _ (List.mem_cons_of_mem _ (List.mem_cons_of_mem _ (List.mem_cons_of_mem _ (List.mem_cons_of_mem _ (List.mem_cons_of_mem _ (List.mem_cons_of_mem _ (List.mem_cons_of_mem _ (List.mem_cons_of_mem _ (List.mem_cons_of_mem _ (List.mem_cons_of_mem _ (List.mem_cons_self ..)))))))))))))))
  cases hx
structure Rg46 (l : List Oper) : Prop where
  len : l.length = 4
  o0 : (l[0]?).map coreO = some (.move (.tmp 8), (some 364), none)
  o1 : (l[1]?).map coreO = some (.move (.tmp 15), (some 365), none)
  o2 : (l[2]?).map coreO = some (.binOp .add 43 (.tmp 364) (.tmp 365) 43, (some 366), none)
  o3 : (l[3]?).map coreO = some (.assign (.tmp 366), (some 8), none)
theorem Rg46_ok {Q : Exit → Act → World → Prop} {id : Nat} {l : List Oper} {a : Act} {w : World} {g gw pn pc : Nat} {pa : Option Addr} {hh : Hs} {s : St} (hO : Rg46 l)  (hk : Keeps 397 ((4, .pointer (some ⟨gw, 0, none⟩)) :: (12, .int .u32 (s.a)) :: (13, .int .u32 (s.b)) :: (14, .int .u32 (s.c)) :: (15, .int .u32 (s.d)) :: (16, .int .u32 (s.e)) :: (1, .slice pa pn pc) :: (0, .pointer (some ⟨g, 0, none⟩)) :: (5, .int .u32 (uAdd (hh.a) (s.a))) :: (6, .int .u32 (uAdd (hh.b) (s.b))) :: (7, .int .u32 (uAdd (hh.c) (s.c))) :: (8, .int .u32 (hh.d)) :: (9, .int .u32 (hh.e)) :: []) a)
    (h : ∀ a', Keeps 397 ((4, .pointer (some ⟨gw, 0, none⟩)) :: (12, .int .u32 (s.a)) :: (13, .int .u32 (s.b)) :: (14, .int .u32 (s.c)) :: (15, .int .u32 (s.d)) :: (16, .int .u32 (s.e)) :: (1, .slice pa pn pc) :: (0, .pointer (some ⟨g, 0, none⟩)) :: (5, .int .u32 (uAdd (hh.a) (s.a))) :: (6, .int .u32 (uAdd (hh.b) (s.b))) :: (7, .int .u32 (uAdd (hh.c) (s.c))) :: (8, .int .u32 (uAdd (hh.d) (s.d))) :: (9, .int .u32 (hh.e)) :: []) a' → Q .normal a' w) : (Code.region id l.toArray false).wp Try.prog Q a w := by
  refine lit_start ?_
  refine drop_k hO.o0 hk (by decide) (by repeat' (first | exact far_nil _ | refine far_cons (by decide) ?_)) (v := .int .u32 (hh.d)) (fun o ho => do_move ho (hk.at (List.mem_cons_of_mem _ (List.mem_cons_of_mem _ (List.mem_cons_of_mem _ (List.mem_cons_of_mem _ (List.mem_cons_of_mem _ (List.mem_cons_of_mem _ (List.mem_cons_of_mem _ (List.mem_cons_of_mem _ (List.mem_cons_of_mem _ (List.mem_cons_of_mem _ (List.mem_cons_of_mem _ (List.mem_cons_self ..)))))))))))))) ?_
  clear hk; intro a hk
  refine drop_k hO.o1 hk (by decide) (by repeat' (first | exact far_nil _ | refine far_cons (by decide) ?_)) (v := .int .u32 (s.d)) (fun o ho => do_move ho (hk.at (List.mem_cons_of_mem _ (List.mem_cons_of_mem _ (List.mem_cons_of_mem _ (List.mem_cons_of_mem _ (List.mem_cons_of_mem _ (List.mem_cons_self ..)))))))) ?_
  clear hk; intro a hk
  refine drop_k hO.o2 hk (by decide) (by repeat' (first | exact far_nil _ | refine far_cons (by decide) ?_)) (v := .int .u32 (uAdd (hh.d) (s.d))) (fun o ho => do_add ho (hk.at (List.mem_cons_of_mem _ (List.mem_cons_self ..))) (hk.at (List.mem_cons_self ..))) ?_
  clear hk; intro a hk
  have hk2 : Keeps 397 ((366, .int .u32 (uAdd (hh.d) (s.d))) :: (365, .int .u32 (s.d)) :: (364, .int .u32 (hh.d)) :: (4, .pointer (some ⟨gw, 0, none⟩)) :: (12, .int .u32 (s.a)) :: (13, .int .u32 (s.b)) :: (14, .int .u32 (s.c)) :: (15, .int .u32 (s.d)) :: (16, .int .u32 (s.e)) :: (1, .slice pa pn pc) :: (0, .pointer (some ⟨g, 0, none⟩)) :: (5, .int .u32 (uAdd (hh.a) (s.a))) :: (6, .int .u32 (uAdd (hh.b) (s.b))) :: (7, .int .u32 (uAdd (hh.c) (s.c))) :: (9, .int .u32 (hh.e)) :: []) a := by
    refine ⟨hk.1, hk.2.1, fun x hx => hk.2.2 x ?_⟩
    rcases List.mem_cons.1 hx with rfl | hx
    · exact List.mem_cons_self ..
    rcases List.mem_cons.1 hx with rfl | hx
    · exact List.mem_cons_of_mem _ (List.mem_cons_self ..)
    rcases List.mem_cons.1 hx with rfl | hx
    · exact List.mem_cons_of_mem _ (List.mem_cons_of_mem _ (List.mem_cons_self ..))
    rcases List.mem_cons.1 hx with rfl | hx
    · exact List.mem_cons_of_mem _ (List.mem_cons_of_mem _ (List.mem_cons_of_mem _ (List.mem_cons_self ..)))
    rcases List.mem_cons.1 hx with rfl | hx
    · exact List.mem_cons_of_mem _ (List.mem_cons_of_mem _ (List.mem_cons_of_mem _ (List.mem_cons_of_mem _ (List.mem_cons_self ..))))
    rcases List.mem_cons.1 hx with rfl | hx
    · exact List.mem_cons_of_mem _ (List.mem_cons_of_mem _ (List.mem_cons_of_mem _ (List.mem_cons_of_mem _ (List.mem_cons_of_mem _ (List.mem_cons_self ..)))))
    rcases List.mem_cons.1 hx with rfl | hx
    · exact List.mem_cons_of_mem _ (List.mem_cons_of_mem _ (List.mem_cons_of_mem _ (List.mem_cons_of_mem _ (List.mem_cons_of_mem _ (List.mem_cons_of_mem _ (List.mem_cons_self ..))))))
    rcases List.mem_cons.1 hx with rfl | hx
    · exact List.mem_cons_of_mem _ (List.mem_cons_of_mem _ (List.mem_cons_of_mem _ (List.mem_cons_of_mem _ (List.mem_cons_of_mem _ (List.mem_cons_of_mem _ (List.mem_cons_of_mem _ (List.mem_cons_self ..)))))))
    rcases List.mem_cons.1 hx with rfl | hx
    · exact List.mem_cons_of_mem _ (List.mem_cons_of_mem _ (List.mem_cons_of_mem _ (List.mem_cons_of_mem _ (List.mem_cons_of_mem _ (List.mem_cons_of_mem _ (List.mem_cons_of_mem _ (List.mem_cons_of_mem _ (List.mem_cons_self ..))))))))
    rcases List.mem_cons.1 hx with rfl | hx
    · exact List.mem_cons_of_mem _ (List.mem_cons_of_mem _ (List.mem_cons_of_mem _ (List.mem_cons_of_mem _ (List.mem_cons_of_mem _ (List.mem_cons_of_mem _ (List.mem_cons_of_mem _ (List.mem_cons_of_mem _ (List.mem_cons_of_mem _ (List.mem_cons_self ..)))))))))
    rcases List.mem_cons.1 hx with rfl | hx
    · exact List.mem_cons_of_mem _ (List.mem_cons_of_mem _ (List.mem_cons_of_mem _ (List.mem_cons_of_mem _ (List.mem_cons_of_mem _ (List.mem_cons_of_mem _ (List.mem_cons_of_mem _ (List.mem_cons_of_mem _ (List.mem_cons_of_mem _ (List.mem_cons_of_mem _ (List.mem_cons_self ..))))))))))
    rcases List.mem_cons.1 hx with rfl | hx
    · exact List.mem_cons_of_mem _ (List.mem_cons_of_mem _ (List.mem_cons_of_mem _ (List.mem_cons_of_mem _ (List.mem_cons_of_mem _ (List.mem_cons_of_mem _ (List.mem_cons_of_mem _ (List.mem_cons_of_mem _ (List.mem_cons_of_mem _ (List.mem_cons_of_mem _ (List.mem_cons_of_mem _ (List.mem_cons_self ..)))))))))))
    rcases List.mem_cons.1 hx with rfl | hx
    · exact List.mem_cons_of_mem _ (List.mem_cons_of_mem _ (List.mem_cons_of_mem _ (List.mem_cons_of_mem _ (List.mem_cons_of_mem _ (List.mem_cons_of_mem _ (List.mem_cons_of_mem _ (List.mem_cons_of_mem _ (List.mem_cons_of_mem _ (List.mem_cons_of_mem _ (List.mem_cons_of_mem _ (List.mem_cons_of_mem _ (List.mem_cons_self ..))))))))))))
    rcases List.mem_cons.1 hx with rfl | hx
    · exact List.mem_cons_of_mem _ (List.mem_cons_of_mem _ (List.mem_cons_of_mem _ (List.mem_cons_of_mem _ (List.mem_cons_of_mem _ (List.mem_cons_of_mem _ (List.mem_cons_of_mem _ (List.mem_cons_of_mem _ (List.mem_cons_of_mem _ (List.mem_cons_of_mem _ (List.mem_cons_of_mem _ (List.mem_cons_of_mem _ (List.mem_cons_of_mem _ (List.mem_cons_self ..)))))))))))))
    rcases List.mem_cons.1 hx with rfl | hx
    · exact List.mem_cons_of_mem _ (List.mem_cons_of_mem _ (List.mem_cons_of_mem _ (List.mem_cons_of_mem _ (List.mem_cons_of_mem _ (List.mem_cons_of_mem _ (List.mem_cons_of_mem _ (List.mem_cons_of_mem _ (List.mem_cons_of_mem _ (List.mem_cons_of_mem _ (List.mem_cons_of_mem _ (List.mem_cons_of_mem _ (List.mem_cons_of_mem _ (List.mem_cons_of_mem _ (List.mem_cons_of_mem _ (List.mem_cons_self ..)))))))))))))))
    cases hx
  clear hk
  have hk := hk2
  clear hk2
  refine drop_k hO.o3 hk (by decide) (by repeat' (first | exact far_nil _ | refine far_cons (by decide) ?_)) (v := .int .u32 (uAdd (hh.d) (s.d))) (fun o ho => do_assign ho (hk.at (List.mem_cons_self ..))) ?_
  clear hk; intro a hk
  refine drop_end hO.len ?_
  refine h _ ?_
  refine ⟨hk.1, hk.2.1, fun x hx => hk.2.2 x ?_⟩
  rcases List.mem_cons.1 hx with rfl | hx
  · exact List.mem_cons_of_mem _ (List.mem_cons_of_mem _ (List.mem_cons_of_mem _ (List.mem_cons_of_mem _ (List.mem_cons_self ..))))
  rcases List.mem_cons.1 hx with rfl | hx
  · exact List.mem_cons_of_mem _ (List.mem_cons_of_mem _ (List.mem_cons_of_mem _ (List.mem_cons_of_mem _ (List.mem_cons_of_mem _ (List.mem_cons_self ..)))))
  rcases List.mem_cons.1 hx with rfl | hx
  · exact List.mem_cons_of_mem _ (List.mem_cons_of_mem _ (List.mem_cons_of_mem _ (List.mem_cons_of_mem _ (List.mem_cons_of_mem _ (List.mem_cons_of_mem _ (List.mem_cons_self ..))))))
  rcases List.mem_cons.1 hx with rfl | hx
  · exact List.mem_cons_of_mem _ (List.mem_cons_of_mem _ (List.mem_cons_of_mem _ (List.mem_cons_of_mem _ (List.mem_cons_of_mem _ (List.mem_cons_of_mem _ (List.mem_cons_of_mem _ (List.mem_cons_self ..)))))))
  rcases List.mem_cons.1 hx with rfl | hx
  · exact List.mem_cons_of_mem _ (List.mem_cons_of_mem _ (List.mem_cons_of_mem _ (List.mem_cons_of_mem _ (List.mem_cons_of_mem _ (List.mem_cons_of_mem _ (List.mem_cons_of_mem _ (List.mem_cons_of_mem _ (List.mem_cons_self ..))))))))
  rcases List.mem_cons.1 hx with rfl | hx
  · exact List.mem_cons_of_mem _ (List.mem_cons_of_mem _ (List.mem_cons_of_mem _ (List.mem_cons_of_mem _ (List.mem_cons_of_mem _ (List.mem_cons_of_mem _ (List.mem_cons_of_mem _ (List.mem_cons_of_mem _ (List.mem_cons_of_mem _ (List.mem_cons_self ..)))))))))
  rcases List.mem_cons.1 hx with rfl | hx
  · exact List.mem_cons_of_mem _ (List.mem_cons_of_mem _ (List.mem_cons_of_mem _ (List.mem_cons_of_mem _ (List.mem_cons_of_mem _ (List.mem_cons_of_mem _ (List.mem_cons_of_mem _ (List.mem_cons_of_mem _ (List.mem_cons_of_mem _ (List.mem_cons_of_mem _ (List.mem_cons_self ..))))))))))
  rcases List.mem_cons.1 hx with rfl | hx
  · exact List.mem_cons_of_mem _ (List.mem_cons_of_mem _ (List.mem_cons_of_mem _ (List.mem_cons_of_mem _ (List.mem_cons_of_mem _ (List.mem_cons_of_mem _ (List.mem_cons_of_mem _ (List.mem_cons_of_mem _ (List.mem_cons_of_mem _ (List.mem_cons_of_mem _ (List.mem_cons_of_mem _ (List.mem_cons_self ..)))))))))))
  rcases List.mem_cons.1 hx with rfl | hx
  · exact List.mem_cons_of_mem _ (List.mem_cons_of_mem _ (List.mem_cons_of_mem _ (List.mem_cons_of_mem _ (List.mem_cons_of_mem _ (List.mem_cons_of_mem _ (List.mem_cons_of_mem _ (List.mem_cons_of_mem _ (List.mem_cons_of_mem _ (List.mem_cons_of_mem _ (List.mem_cons_of_mem _ (List.mem_cons_of_mem _ (List.mem_cons_self ..))))))))))))
  rcases List.mem_cons.1 hx with rfl | hx
  · exact List.mem_cons_of_mem _ (List.mem_cons_of_mem _ (List.mem_cons_of_mem _ (List.mem_cons_of_mem _ (List.mem_cons_of_mem _ (List.mem_cons_of_mem _ (List.mem_cons_of_mem _ (List.mem_cons_of_mem _ (List.mem_cons_of_mem _ (List.mem_cons_of_mem _ (List.mem_cons_of_mem _ (List.mem_cons_of_mem _ (List.mem_cons_of_mem _ (List.mem_cons_self ..)))))))))))))
  rcases List.mem_cons.1 hx with rfl | hx
  · exact List.mem_cons_of_mem _ (List.mem_cons_of_mem _ (List.mem_cons_of_mem _ (List.mem_cons_of_mem _ (List.mem_cons_of_mem _ (List.mem_cons_of_mem _ (List.mem_cons_of_mem _ (List.mem_cons_of_mem _ (List.mem_cons_of_mem _ (List.mem_cons_of_mem _ (List.mem_cons_of_mem _ (List.mem_cons_of_mem _ (List.mem_cons_of_mem _ (List.mem_cons_of_mem _ (List.mem_cons_self ..))))))))))))))
  rcases List.mem_cons.1 hx with rfl | hx
  · exact List.mem_cons_self ..
  rcases List.mem_cons.1 hx with rfl | hx
  · exact List.mem_cons_of_mem _ (List.mem_cons_of_mem _ (List.mem_cons_of_mem _ (List.mem_cons_of_mem _ (List.mem_cons_of_mem _ (List.mem_cons_of_mem _ (List.mem_cons_of_mem _ (List.mem_cons_of_mem _ (List.mem_cons_of_mem _ (List.mem_cons_of_mem _ (List.mem_cons_of_mem _ (List.mem_cons_of_mem _ (List.mem_cons_of_mem _ (List.mem_cons_of_mem _ (List.mem_cons_of_mem _ (List.mem_cons_self ..)))))))))))))))
  cases hx
structure Rg47 (l : List Oper) : Prop where
  len : l.length = 4
  o0 : (l[0]?).map coreO = some (.move (.tmp 9), (some 367), none)
  o1 : (l[1]?).map coreO = some (.move (.tmp 16), (some 368), none)
  o2 : (l[2]?).map coreO = some (.binOp .add 43 (.tmp 367) (.tmp 368) 43, (some 369), none)
  o3 : (l[3]?).map coreO = some (.assign (.tmp 369), (some 9), none)
theorem Rg47_ok {Q : Exit → Act → World → Prop} {id : Nat} {l : List Oper} {a : Act} {w : World} {g gw pn pc : Nat} {pa : Option Addr} {hh : Hs} {s : St} (hO : Rg47 l)  (hk : Keeps 397 ((4, .pointer (some ⟨gw, 0, none⟩)) :: (12, .int .u32 (s.a)) :: (13, .int .u32 (s.b)) :: (14, .int .u32 (s.c)) :: (15, .int .u32 (s.d)) :: (16, .int .u32 (s.e)) :: (1, .slice pa pn pc) :: (0, .pointer (some ⟨g, 0, none⟩)) :: (5, .int .u32 (uAdd (hh.a) (s.a))) :: (6, .int .u32 (uAdd (hh.b) (s.b))) :: (7, .int .u32 (uAdd (hh.c) (s.c))) :: (8, .int .u32 (uAdd (hh.d) (s.d))) :: (9, .int .u32 (hh.e)) :: []) a)
    (h : ∀ a', Keeps 397 ((4, .pointer (some ⟨gw, 0, none⟩)) :: (12, .int .u32 (s.a)) :: (13, .int .u32 (s.b)) :: (14, .int .u32 (s.c)) :: (15, .int .u32 (s.d)) :: (16, .int .u32 (s.e)) :: (1, .slice pa pn pc) :: (0, .pointer (some ⟨g, 0, none⟩)) :: (5, .int .u32 (uAdd (hh.a) (s.a))) :: (6, .int .u32 (uAdd (hh.b) (s.b))) :: (7, .int .u32 (uAdd (hh.c) (s.c))) :: (8, .int .u32 (uAdd (hh.d) (s.d))) :: (9, .int .u32 (uAdd (hh.e) (s.e))) :: []) a' → Q .normal a' w) : (Code.region id l.toArray false).wp Try.prog Q a w := by
  refine lit_start ?_
  refine drop_k hO.o0 hk (by decide) (by repeat' (first | exact far_nil _ | refine far_cons (by decide) ?_)) (v := .int .u32 (hh.e)) (fun o ho => do_move ho (hk.at (List.mem_cons_of_mem _ (List.mem_cons_of_mem _ (List.mem_cons_of_mem _ (List.mem_cons_of_mem _ (List.mem_cons_of_mem _ (List.mem_cons_of_mem _ (List.mem_cons_of_mem _ (List.mem_cons_of_mem _ (List.mem_cons_of_mem _ (List.mem_cons_of_mem _ (List.mem_cons_of_mem _ (List.mem_cons_of_mem _ (List.mem_cons_self ..))))))))))))))) ?_
  clear hk; intro a hk
  refine drop_k hO.o1 hk (by decide) (by repeat' (first | exact far_nil _ | refine far_cons (by decide) ?_)) (v := .int .u32 (s.e)) (fun o ho => do_move ho (hk.at (List.mem_cons_of_mem _ (List.mem_cons_of_mem _ (List.mem_cons_of_mem _ (List.mem_cons_of_mem _ (List.mem_cons_of_mem _ (List.mem_cons_of_mem _ (List.mem_cons_self ..))))))))) ?_
  clear hk; intro a hk
  refine drop_k hO.o2 hk (by decide) (by repeat' (first | exact far_nil _ | refine far_cons (by decide) ?_)) (v := .int .u32 (uAdd (hh.e) (s.e))) (fun o ho => do_add ho (hk.at (List.mem_cons_of_mem _ (List.mem_cons_self ..))) (hk.at (List.mem_cons_self ..))) ?_
  clear hk; intro a hk
  have hk2 : Keeps 397 ((369, .int .u32 (uAdd (hh.e) (s.e))) :: (368, .int .u32 (s.e)) :: (367, .int .u32 (hh.e)) :: (4, .pointer (some ⟨gw, 0, none⟩)) :: (12, .int .u32 (s.a)) :: (13, .int .u32 (s.b)) :: (14, .int .u32 (s.c)) :: (15, .int .u32 (s.d)) :: (16, .int .u32 (s.e)) :: (1, .slice pa pn pc) :: (0, .pointer (some ⟨g, 0, none⟩)) :: (5, .int .u32 (uAdd (hh.a) (s.a))) :: (6, .int .u32 (uAdd (hh.b) (s.b))) :: (7, .int .u32 (uAdd (hh.c) (s.c))) :: (8, .int .u32 (uAdd (hh.d) (s.d))) :: []) a := by
    refine ⟨hk.1, hk.2.1, fun x hx => hk.2.2 x ?_⟩
    rcases List.mem_cons.1 hx with rfl | hx
    · exact List.mem_cons_self ..
    rcases List.mem_cons.1 hx with rfl | hx
    · exact List.mem_cons_of_mem _ (List.mem_cons_self ..)
    rcases List.mem_cons.1 hx with rfl | hx
    · exact List.mem_cons_of_mem _ (List.mem_cons_of_mem _ (List.mem_cons_self ..))
    rcases List.mem_cons.1 hx with rfl | hx
    · exact List.mem_cons_of_mem _ (List.mem_cons_of_mem _ (List.mem_cons_of_mem _ (List.mem_cons_self ..)))
    rcases List.mem_cons.1 hx with rfl | hx
    · exact List.mem_cons_of_mem _ (List.mem_cons_of_mem _ (List.mem_cons_of_mem _ (List.mem_cons_of_mem _ (List.mem_cons_self ..))))
    rcases List.mem_cons.1 hx with rfl | hx
    · exact List.mem_cons_of_mem _ (List.mem_cons_of_mem _ (List.mem_cons_of_mem _ (List.mem_cons_of_mem _ (List.mem_cons_of_mem _ (List.mem_cons_self ..)))))
    rcases List.mem_cons.1 hx with rfl | hx
    · exact List.mem_cons_of_mem _ (List.mem_cons_of_mem _ (List.mem_cons_of_mem _ (List.mem_cons_of_mem _ (List.mem_cons_of_mem _ (List.mem_cons_of_mem _ (List.mem_cons_self ..))))))
    rcases List.mem_cons.1 hx with rfl | hx
    · exact List.mem_cons_of_mem _ (List.mem_cons_of_mem _ (List.mem_cons_of_mem _ (List.mem_cons_of_mem _ (List.mem_cons_of_mem _ (List.mem_cons_of_mem _ (List.mem_cons_of_mem _ (List.mem_cons_self ..)))))))
    rcases List.mem_cons.1 hx with rfl | hx
    · exact List.mem_cons_of_mem _ (List.mem_cons_of_mem _ (List.mem_cons_of_mem _ (List.mem_cons_of_mem _ (List.mem_cons_of_mem _ (List.mem_cons_of_mem _ (List.mem_cons_of_mem _ (List.mem_cons_of_mem _ (List.mem_cons_self ..))))))))
    rcases List.mem_cons.1 hx with rfl | hx
    · exact List.mem_cons_of_mem _ (List.mem_cons_of_mem _ (List.mem_cons_of_mem _ (List.mem_cons_of_mem _ (List.mem_cons_of_mem _ (List.mem_cons_of_mem _ (List.mem_cons_of_mem _ (List.mem_cons_of_mem _ (List.mem_cons_of_mem _ (List.mem_cons_self ..)))))))))
    rcases List.mem_cons.1 hx with rfl | hx
    · exact List.mem_cons_of_mem _ (List.mem_cons_of_mem _ (List.mem_cons_of_mem _ (List.mem_cons_of_mem _ (List.mem_cons_of_mem _ (List.mem_cons_of_mem _ (List.mem_cons_of_mem _ (List.mem_cons_of_mem _ (List.mem_cons_of_mem _ (List.mem_cons_of_mem _ (List.mem_cons_self ..))))))))))
    rcases List.mem_cons.1 hx with rfl | hx
    · exact List.mem_cons_of_mem _ (List.mem_cons_of_mem _ (List.mem_cons_of_mem _ (List.mem_cons_of_mem _ (List.mem_cons_of_mem _ (List.mem_cons_of_mem _ (List.mem_cons_of_mem _ (List.mem_cons_of_mem _ (List.mem_cons_of_mem _ (List.mem_cons_of_mem _ (List.mem_cons_of_mem _ (List.mem_cons_self ..)))))))))))
    rcases List.mem_cons.1 hx with rfl | hx
    · exact List.mem_cons_of_mem _ (List.mem_cons_of_mem _ (List.mem_cons_of_mem _ (List.mem_cons_of_mem _ (List.mem_cons_of_mem _ (List.mem_cons_of_mem _ (List.mem_cons_of_mem _ (List.mem_cons_of_mem _ (List.mem_cons_of_mem _ (List.mem_cons_of_mem _ (List.mem_cons_of_mem _ (List.mem_cons_of_mem _ (List.mem_cons_self ..))))))))))))
    rcases List.mem_cons.1 hx with rfl | hx
    · exact List.mem_cons_of_mem _ (List.mem_cons_of_mem _ (List.mem_cons_of_mem _ (List.mem_cons_of_mem _ (List.mem_cons_of_mem _ (List.mem_cons_of_mem _ (List.mem_cons_of_mem _ (List.mem_cons_of_mem _ (List.mem_cons_of_mem _ (List.mem_cons_of_mem _ (List.mem_cons_of_mem _ (List.mem_cons_of_mem _ (List.mem_cons_of_mem _ (List.mem_cons_self ..)))))))))))))
    rcases List.mem_cons.1 hx with rfl | hx
    · exact List.mem_cons_of_mem _ (List.mem_cons_of_mem _ (List.mem_cons_of_mem _ (List.mem_cons_of_mem _ (List.mem_cons_of_mem _ (List.mem_cons_of_mem _ (List.mem_cons_of_mem _ (List.mem_cons_of_mem _ (List.mem_cons_of_mem _ (List.mem_cons_of_mem _ (List.mem_cons_of_mem _ (List.mem_cons_of_mem _ (List.mem_cons_of_mem _ (List.mem_cons_of_mem _ (List.mem_cons_self ..))))))))))))))
    cases hx
  clear hk
  have hk := hk2
  clear hk2
  refine drop_k hO.o3 hk (by decide) (by repeat' (first | exact far_nil _ | refine far_cons (by decide) ?_)) (v := .int .u32 (uAdd (hh.e) (s.e))) (fun o ho => do_assign ho (hk.at (List.mem_cons_self ..))) ?_
  clear hk; intro a hk
  refine drop_end hO.len ?_
  refine h _ ?_
  refine ⟨hk.1, hk.2.1, fun x hx => hk.2.2 x ?_⟩
  rcases List.mem_cons.1 hx with rfl | hx
  · exact List.mem_cons_of_mem _ (List.mem_cons_of_mem _ (List.mem_cons_of_mem _ (List.mem_cons_of_mem _ (List.mem_cons_self ..))))
  rcases List.mem_cons.1 hx with rfl | hx
  · exact List.mem_cons_of_mem _ (List.mem_cons_of_mem _ (List.mem_cons_of_mem _ (List.mem_cons_of_mem _ (List.mem_cons_of_mem _ (List.mem_cons_self ..)))))
  rcases List.mem_cons.1 hx with rfl | hx
  · exact List.mem_cons_of_mem _ (List.mem_cons_of_mem _ (List.mem_cons_of_mem _ (List.mem_cons_of_mem _ (List.mem_cons_of_mem _ (List.mem_cons_of_mem _ (List.mem_cons_self ..))))))
  rcases List.mem_cons.1 hx with rfl | hx
  · exact List.mem_cons_of_mem _ (List.mem_cons_of_mem _ (List.mem_cons_of_mem _ (List.mem_cons_of_mem _ (List.mem_cons_of_mem _ (List.mem_cons_of_mem _ (List.mem_cons_of_mem _ (List.mem_cons_self ..)))))))
  rcases List.mem_cons.1 hx with rfl | hx
  · exact List.mem_cons_of_mem _ (List.mem_cons_of_mem _ (List.mem_cons_of_mem _ (List.mem_cons_of_mem _ (List.mem_cons_of_mem _ (List.mem_cons_of_mem _ (List.mem_cons_of_mem _ (List.mem_cons_of_mem _ (List.mem_cons_self ..))))))))
  rcases List.mem_cons.1 hx with rfl | hx
  · exact List.mem_cons_of_mem _ (List.mem_cons_of_mem _ (List.mem_cons_of_mem _ (List.mem_cons_of_mem _ (List.mem_cons_of_mem _ (List.mem_cons_of_mem _ (List.mem_cons_of_mem _ (List.mem_cons_of_mem _ (List.mem_cons_of_mem _ (List.mem_cons_self ..)))))))))
  rcases List.mem_cons.1 hx with rfl | hx
  · exact List.mem_cons_of_mem _ (List.mem_cons_of_mem _ (List.mem_cons_of_mem _ (List.mem_cons_of_mem _ (List.mem_cons_of_mem _ (List.mem_cons_of_mem _ (List.mem_cons_of_mem _ (List.mem_cons_of_mem _ (List.mem_cons_of_mem _ (List.mem_cons_of_mem _ (List.mem_cons_self ..))))))))))
  rcases List.mem_cons.1 hx with rfl | hx
  · exact List.mem_cons_of_mem _ (List.mem_cons_of_mem _ (List.mem_cons_of_mem _ (List.mem_cons_of_mem _ (List.mem_cons_of_mem _ (List.mem_cons_of_mem _ (List.mem_cons_of_mem _ (List.mem_cons_of_mem _ (List.mem_cons_of_mem _ (List.mem_cons_of_mem _ (List.mem_cons_of_mem _ (List.mem_cons_self ..)))))))))))
  rcases List.mem_cons.1 hx with rfl | hx
  · exact List.mem_cons_of_mem _ (List.mem_cons_of_mem _ (List.mem_cons_of_mem _ (List.mem_cons_of_mem _ (List.mem_cons_of_mem _ (List.mem_cons_of_mem _ (List.mem_cons_of_mem _ (List.mem_cons_of_mem _ (List.mem_cons_of_mem _ (List.mem_cons_of_mem _ (List.mem_cons_of_mem _ (List.mem_cons_of_mem _ (List.mem_cons_self ..))))))))))))
  rcases List.mem_cons.1 hx with rfl | hx
  · exact List.mem_cons_of_mem _ (List.mem_cons_of_mem _ (List.mem_cons_of_mem _ (List.mem_cons_of_mem _ (List.mem_cons_of_mem _ (List.mem_cons_of_mem _ (List.mem_cons_of_mem _ (List.mem_cons_of_mem _ (List.mem_cons_of_mem _ (List.mem_cons_of_mem _ (List.mem_cons_of_mem _ (List.mem_cons_of_mem _ (List.mem_cons_of_mem _ (List.mem_cons_self ..)))))))))))))
  rcases List.mem_cons.1 hx with rfl | hx
  · exact List.mem_cons_of_mem _ (List.mem_cons_of_mem _ (List.mem_cons_of_mem _ (List.mem_cons_of_mem _ (List.mem_cons_of_mem _ (List.mem_cons_of_mem _ (List.mem_cons_of_mem _ (List.mem_cons_of_mem _ (List.mem_cons_of_mem _ (List.mem_cons_of_mem _ (List.mem_cons_of_mem _ (List.mem_cons_of_mem _ (List.mem_cons_of_mem _ (List.mem_cons_of_mem _ (List.mem_cons_self ..))))))))))))))
  rcases List.mem_cons.1 hx with rfl | hx
  · exact List.mem_cons_of_mem _ (List.mem_cons_of_mem _ (List.mem_cons_of_mem _ (List.mem_cons_of_mem _ (List.mem_cons_of_mem _ (List.mem_cons_of_mem _ (List.mem_cons_of_mem _ (List.mem_cons_of_mem _ (List.mem_cons_of_mem _ (List.mem_cons_of_mem _ (List.mem_cons_of_mem _ (List.mem_cons_of_mem _ (List.mem_cons_of_mem _ (List.mem_cons_of_mem _ (List.mem_cons_of_mem _ (List.mem_cons_self ..)))))))))))))))
  rcases List.mem_cons.1 hx with rfl | hx
  · exact List.mem_cons_self ..
  cases hx
structure Rg48 (l : List Oper) : Prop where
  len : l.length = 3
  o0 : (l[0]?).map coreO = some (.move (.tmp 1), (some 370), none)
  o1 : (l[1]?).map coreO = some (.slice 22 (.tmp 370) (some (.const (.int .i64 64))) none none, (some 371), none)
  o2 : (l[2]?).map coreO = some (.assign (.tmp 371), (some 1), none)
theorem Rg48_ok {Q : Exit → Act → World → Prop} {id : Nat} {l : List Oper} {a : Act} {w : World} {g gw pn pc pb po : Nat} {hh : Hs} {s : St} (hO : Rg48 l) (hpn : 64 ≤ pn) (hpc : pn ≤ pc) (hk : Keeps 397 ((4, .pointer (some ⟨gw, 0, none⟩)) :: (12, .int .u32 (s.a)) :: (13, .int .u32 (s.b)) :: (14, .int .u32 (s.c)) :: (15, .int .u32 (s.d)) :: (16, .int .u32 (s.e)) :: (1, .slice (some ⟨pb, po, none⟩) pn pc) :: (0, .pointer (some ⟨g, 0, none⟩)) :: (5, .int .u32 (uAdd (hh.a) (s.a))) :: (6, .int .u32 (uAdd (hh.b) (s.b))) :: (7, .int .u32 (uAdd (hh.c) (s.c))) :: (8, .int .u32 (uAdd (hh.d) (s.d))) :: (9, .int .u32 (uAdd (hh.e) (s.e))) :: []) a)
    (h : ∀ a', Keeps 397 ((4, .pointer (some ⟨gw, 0, none⟩)) :: (1, .slice (some ⟨pb, tailOff pc 64 po, none⟩) (pn - 64) (pc - 64)) :: (0, .pointer (some ⟨g, 0, none⟩)) :: (5, .int .u32 (uAdd (hh.a) (s.a))) :: (6, .int .u32 (uAdd (hh.b) (s.b))) :: (7, .int .u32 (uAdd (hh.c) (s.c))) :: (8, .int .u32 (uAdd (hh.d) (s.d))) :: (9, .int .u32 (uAdd (hh.e) (s.e))) :: []) a' → Q .normal a' w) : (Code.region id l.toArray false).wp Try.prog Q a w := by
  refine lit_start ?_
  refine drop_k hO.o0 hk (by decide) (by repeat' (first | exact far_nil _ | refine far_cons (by decide) ?_)) (v := .slice (some ⟨pb, po, none⟩) pn pc) (fun o ho => do_move ho (hk.at (List.mem_cons_of_mem _ (List.mem_cons_of_mem _ (List.mem_cons_of_mem _ (List.mem_cons_of_mem _ (List.mem_cons_of_mem _ (List.mem_cons_of_mem _ (List.mem_cons_self ..))))))))) ?_
  clear hk; intro a hk
  refine drop_k hO.o1 hk (by decide) (by repeat' (first | exact far_nil _ | refine far_cons (by decide) ?_)) (v := .slice (some ⟨pb, tailOff pc 64 po, none⟩) (pn - 64) (pc - 64)) (fun o ho => (still_slice_tail (S := fun _ => True) ho Try.underlying22 (by kernel_rfl) (hk.at (List.mem_cons_self ..)) rfl rfl hpn hpc _ trivial)) ?_
  clear hk; intro a hk
  have hk2 : Keeps 397 ((371, .slice (some ⟨pb, tailOff pc 64 po, none⟩) (pn - 64) (pc - 64)) :: (370, .slice (some ⟨pb, po, none⟩) pn pc) :: (4, .pointer (some ⟨gw, 0, none⟩)) :: (12, .int .u32 (s.a)) :: (13, .int .u32 (s.b)) :: (14, .int .u32 (s.c)) :: (15, .int .u32 (s.d)) :: (16, .int .u32 (s.e)) :: (0, .pointer (some ⟨g, 0, none⟩)) :: (5, .int .u32 (uAdd (hh.a) (s.a))) :: (6, .int .u32 (uAdd (hh.b) (s.b))) :: (7, .int .u32 (uAdd (hh.c) (s.c))) :: (8, .int .u32 (uAdd (hh.d) (s.d))) :: (9, .int .u32 (uAdd (hh.e) (s.e))) :: []) a := by
    refine ⟨hk.1, hk.2.1, fun x hx => hk.2.2 x ?_⟩
    rcases List.mem_cons.1 hx with rfl | hx
    · exact List.mem_cons_self ..
    rcases List.mem_cons.1 hx with rfl | hx
    · exact List.mem_cons_of_mem _ (List.mem_cons_self ..)
    rcases List.mem_cons.1 hx with rfl | hx
    · exact List.mem_cons_of_mem _ (List.mem_cons_of_mem _ (List.mem_cons_self ..))
    rcases List.mem_cons.1 hx with rfl | hx
    · exact List.mem_cons_of_mem _ (List.mem_cons_of_mem _ (List.mem_cons_of_mem _ (List.mem_cons_self ..)))
    rcases List.mem_cons.1 hx with rfl | hx
    · exact List.mem_cons_of_mem _ (List.mem_cons_of_mem _ (List.mem_cons_of_mem _ (List.mem_cons_of_mem _ (List.mem_cons_self ..))))
    rcases List.mem_cons.1 hx with rfl | hx
    · exact List.mem_cons_of_mem _ (List.mem_cons_of_mem _ (List.mem_cons_of_mem _ (List.mem_cons_of_mem _ (List.mem_cons_of_mem _ (List.mem_cons_self ..)))))
    rcases List.mem_cons.1 hx with rfl | hx
    · exact List.mem_cons_of_mem _ (List.mem_cons_of_mem _ (List.mem_cons_of_mem _ (List.mem_cons_of_mem _ (List.mem_cons_of_mem _ (List.mem_cons_of_mem _ (List.mem_cons_self ..))))))
    rcases List.mem_cons.1 hx with rfl | hx
    · exact List.mem_cons_of_mem _ (List.mem_cons_of_mem _ (List.mem_cons_of_mem _ (List.mem_cons_of_mem _ (List.mem_cons_of_mem _ (List.mem_cons_of_mem _ (List.mem_cons_of_mem _ (List.mem_cons_self ..)))))))
    rcases List.mem_cons.1 hx with rfl | hx
    · exact List.mem_cons_of_mem _ (List.mem_cons_of_mem _ (List.mem_cons_of_mem _ (List.mem_cons_of_mem _ (List.mem_cons_of_mem _ (List.mem_cons_of_mem _ (List.mem_cons_of_mem _ (List.mem_cons_of_mem _ (List.mem_cons_of_mem _ (List.mem_cons_self ..)))))))))
    rcases List.mem_cons.1 hx with rfl | hx
    · exact List.mem_cons_of_mem _ (List.mem_cons_of_mem _ (List.mem_cons_of_mem _ (List.mem_cons_of_mem _ (List.mem_cons_of_mem _ (List.mem_cons_of_mem _ (List.mem_cons_of_mem _ (List.mem_cons_of_mem _ (List.mem_cons_of_mem _ (List.mem_cons_of_mem _ (List.mem_cons_self ..))))))))))
    rcases List.mem_cons.1 hx with rfl | hx
    · exact List.mem_cons_of_mem _ (List.mem_cons_of_mem _ (List.mem_cons_of_mem _ (List.mem_cons_of_mem _ (List.mem_cons_of_mem _ (List.mem_cons_of_mem _ (List.mem_cons_of_mem _ (List.mem_cons_of_mem _ (List.mem_cons_of_mem _ (List.mem_cons_of_mem _ (List.mem_cons_of_mem _ (List.mem_cons_self ..)))))))))))
    rcases List.mem_cons.1 hx with rfl | hx
    · exact List.mem_cons_of_mem _ (List.mem_cons_of_mem _ (List.mem_cons_of_mem _ (List.mem_cons_of_mem _ (List.mem_cons_of_mem _ (List.mem_cons_of_mem _ (List.mem_cons_of_mem _ (List.mem_cons_of_mem _ (List.mem_cons_of_mem _ (List.mem_cons_of_mem _ (List.mem_cons_of_mem _ (List.mem_cons_of_mem _ (List.mem_cons_self ..))))))))))))
    rcases List.mem_cons.1 hx with rfl | hx
    · exact List.mem_cons_of_mem _ (List.mem_cons_of_mem _ (List.mem_cons_of_mem _ (List.mem_cons_of_mem _ (List.mem_cons_of_mem _ (List.mem_cons_of_mem _ (List.mem_cons_of_mem _ (List.mem_cons_of_mem _ (List.mem_cons_of_mem _ (List.mem_cons_of_mem _ (List.mem_cons_of_mem _ (List.mem_cons_of_mem _ (List.mem_cons_of_mem _ (List.mem_cons_self ..)))))))))))))
    rcases List.mem_cons.1 hx with rfl | hx
    · exact List.mem_cons_of_mem _ (List.mem_cons_of_mem _ (List.mem_cons_of_mem _ (List.mem_cons_of_mem _ (List.mem_cons_of_mem _ (List.mem_cons_of_mem _ (List.mem_cons_of_mem _ (List.mem_cons_of_mem _ (List.mem_cons_of_mem _ (List.mem_cons_of_mem _ (List.mem_cons_of_mem _ (List.mem_cons_of_mem _ (List.mem_cons_of_mem _ (List.mem_cons_of_mem _ (List.mem_cons_self ..))))))))))))))
    cases hx
  clear hk
  have hk := hk2
  clear hk2
  refine drop_k hO.o2 hk (by decide) (by repeat' (first | exact far_nil _ | refine far_cons (by decide) ?_)) (v := .slice (some ⟨pb, tailOff pc 64 po, none⟩) (pn - 64) (pc - 64)) (fun o ho => do_assign ho (hk.at (List.mem_cons_self ..))) ?_
  clear hk; intro a hk
  refine drop_end hO.len ?_
  refine h _ ?_
  refine ⟨hk.1, hk.2.1, fun x hx => hk.2.2 x ?_⟩
  rcases List.mem_cons.1 hx with rfl | hx
  · exact List.mem_cons_of_mem _ (List.mem_cons_of_mem _ (List.mem_cons_of_mem _ (List.mem_cons_self ..)))
  rcases List.mem_cons.1 hx with rfl | hx
  · exact List.mem_cons_self ..
  rcases List.mem_cons.1 hx with rfl | hx
  · exact List.mem_cons_of_mem _ (List.mem_cons_of_mem _ (List.mem_cons_of_mem _ (List.mem_cons_of_mem _ (List.mem_cons_of_mem _ (List.mem_cons_of_mem _ (List.mem_cons_of_mem _ (List.mem_cons_of_mem _ (List.mem_cons_of_mem _ (List.mem_cons_self ..)))))))))
  rcases List.mem_cons.1 hx with rfl | hx
  · exact List.mem_cons_of_mem _ (List.mem_cons_of_mem _ (List.mem_cons_of_mem _ (List.mem_cons_of_mem _ (List.mem_cons_of_mem _ (List.mem_cons_of_mem _ (List.mem_cons_of_mem _ (List.mem_cons_of_mem _ (List.mem_cons_of_mem _ (List.mem_cons_of_mem _ (List.mem_cons_self ..))))))))))
  rcases List.mem_cons.1 hx with rfl | hx
  · exact List.mem_cons_of_mem _ (List.mem_cons_of_mem _ (List.mem_cons_of_mem _ (List.mem_cons_of_mem _ (List.mem_cons_of_mem _ (List.mem_cons_of_mem _ (List.mem_cons_of_mem _ (List.mem_cons_of_mem _ (List.mem_cons_of_mem _ (List.mem_cons_of_mem _ (List.mem_cons_of_mem _ (List.mem_cons_self ..)))))))))))
  rcases List.mem_cons.1 hx with rfl | hx
  · exact List.mem_cons_of_mem _ (List.mem_cons_of_mem _ (List.mem_cons_of_mem _ (List.mem_cons_of_mem _ (List.mem_cons_of_mem _ (List.mem_cons_of_mem _ (List.mem_cons_of_mem _ (List.mem_cons_of_mem _ (List.mem_cons_of_mem _ (List.mem_cons_of_mem _ (List.mem_cons_of_mem _ (List.mem_cons_of_mem _ (List.mem_cons_self ..))))))))))))
  rcases List.mem_cons.1 hx with rfl | hx
  · exact List.mem_cons_of_mem _ (List.mem_cons_of_mem _ (List.mem_cons_of_mem _ (List.mem_cons_of_mem _ (List.mem_cons_of_mem _ (List.mem_cons_of_mem _ (List.mem_cons_of_mem _ (List.mem_cons_of_mem _ (List.mem_cons_of_mem _ (List.mem_cons_of_mem _ (List.mem_cons_of_mem _ (List.mem_cons_of_mem _ (List.mem_cons_of_mem _ (List.mem_cons_self ..)))))))))))))
  rcases List.mem_cons.1 hx with rfl | hx
  · exact List.mem_cons_of_mem _ (List.mem_cons_of_mem _ (List.mem_cons_of_mem _ (List.mem_cons_of_mem _ (List.mem_cons_of_mem _ (List.mem_cons_of_mem _ (List.mem_cons_of_mem _ (List.mem_cons_of_mem _ (List.mem_cons_of_mem _ (List.mem_cons_of_mem _ (List.mem_cons_of_mem _ (List.mem_cons_of_mem _ (List.mem_cons_of_mem _ (List.mem_cons_of_mem _ (List.mem_cons_self ..))))))))))))))
  cases hx
structure Rg49 (l : List Oper) : Prop where
  len : l.length = 30
  o0 : (l[0]?).map coreO = some (.move (.tmp 0), (some 372), none)
  o1 : (l[1]?).map coreO = some (.move (.tmp 0), (some 373), none)
  o2 : (l[2]?).map coreO = some (.move (.tmp 0), (some 374), none)
  o3 : (l[3]?).map coreO = some (.move (.tmp 0), (some 375), none)
  o4 : (l[4]?).map coreO = some (.move (.tmp 0), (some 376), none)
  o5 : (l[5]?).map coreO = some (.move (.tmp 5), (some 377), none)
  o6 : (l[6]?).map coreO = some (.move (.tmp 6), (some 378), none)
  o7 : (l[7]?).map coreO = some (.move (.tmp 7), (some 379), none)
  o8 : (l[8]?).map coreO = some (.move (.tmp 8), (some 380), none)
  o9 : (l[9]?).map coreO = some (.move (.tmp 9), (some 381), none)
  o10 : (l[10]?).map coreO = some (.nilCheck (.tmp 372), (some 382), none)
  o11 : (l[11]?).map coreO = some (.fieldAddr 48 (.tmp 382) 0, (some 383), none)
  o12 : (l[12]?).map coreO = some (.indexAddr 44 (.tmp 383) (.const (.int .i64 ((0 : Nat) : Int))), (some 384), none)
  o13 : (l[13]?).map coreO = some (.store 43 (.tmp 384) (.tmp 377), none, none)
  o14 : (l[14]?).map coreO = some (.nilCheck (.tmp 373), (some 385), none)
  o15 : (l[15]?).map coreO = some (.fieldAddr 48 (.tmp 385) 0, (some 386), none)
  o16 : (l[16]?).map coreO = some (.indexAddr 44 (.tmp 386) (.const (.int .i64 ((1 : Nat) : Int))), (some 387), none)
  o17 : (l[17]?).map coreO = some (.store 43 (.tmp 387) (.tmp 378), none, none)
  o18 : (l[18]?).map coreO = some (.nilCheck (.tmp 374), (some 388), none)
  o19 : (l[19]?).map coreO = some (.fieldAddr 48 (.tmp 388) 0, (some 389), none)
  o20 : (l[20]?).map coreO = some (.indexAddr 44 (.tmp 389) (.const (.int .i64 ((2 : Nat) : Int))), (some 390), none)
  o21 : (l[21]?).map coreO = some (.store 43 (.tmp 390) (.tmp 379), none, none)
  o22 : (l[22]?).map coreO = some (.nilCheck (.tmp 375), (some 391), none)
  o23 : (l[23]?).map coreO = some (.fieldAddr 48 (.tmp 391) 0, (some 392), none)
  o24 : (l[24]?).map coreO = some (.indexAddr 44 (.tmp 392) (.const (.int .i64 ((3 : Nat) : Int))), (some 393), none)
  o25 : (l[25]?).map coreO = some (.store 43 (.tmp 393) (.tmp 380), none, none)
  o26 : (l[26]?).map coreO = some (.nilCheck (.tmp 376), (some 394), none)
  o27 : (l[27]?).map coreO = some (.fieldAddr 48 (.tmp 394) 0, (some 395), none)
  o28 : (l[28]?).map coreO = some (.indexAddr 44 (.tmp 395) (.const (.int .i64 ((4 : Nat) : Int))), (some 396), none)
  o29 : (l[29]?).map coreO = some (.store 43 (.tmp 396) (.tmp 381), none, none)
  ns : Region.noSelect l.toArray = true
  ok : planOk .any l.toArray (([(0, 0), (1, 0), (2, 0), (3, 0), (4, 0), (5, 0), (6, 0), (7, 0), (8, 0), (9, 0), (10, 0), (11, 0), (12, 0), (14, 0), (15, 0), (18, 0), (19, 0), (22, 0), (23, 0), (26, 0), (27, 0), (13, 1), (16, 0), (17, 1), (20, 0), (21, 1), (24, 0), (25, 1), (28, 0), (29, 2)].filter (·.2 == 0)).map (·.1)) [(0, 0), (1, 0), (2, 0), (3, 0), (4, 0), (5, 0), (6, 0), (7, 0), (8, 0), (9, 0), (10, 0), (11, 0), (12, 0), (14, 0), (15, 0), (18, 0), (19, 0), (22, 0), (23, 0), (26, 0), (27, 0), (13, 1), (16, 0), (17, 1), (20, 0), (21, 1), (24, 0), (25, 1), (28, 0), (29, 2)] (Array.replicate l.length false) = true
theorem Rg49_ok {Q : Exit → Act → World → Prop} {id : Nat} {l : List Oper} {a : Act} {w : World} {g pn pc : Nat} {pa : Option Addr} {hh h0 : Hs} {more : List Value} {t : TypeId} (hO : Rg49 l) (hg : Blk w g (hcells h0 ++ more) t) (hQ : ∀ c a d v w, Q (.panic c) (a.put d v) w → Q (.panic c) a w) (hk : Keeps 397 ((1, .slice pa pn pc) :: (0, .pointer (some ⟨g, 0, none⟩)) :: (5, .int .u32 (hh.a)) :: (6, .int .u32 (hh.b)) :: (7, .int .u32 (hh.c)) :: (8, .int .u32 (hh.d)) :: (9, .int .u32 (hh.e)) :: []) a)
    (h : ∀ a' w', Keeps 397 ((0, .pointer (some ⟨g, 0, none⟩)) :: []) a' → Blk w' g (hcells hh ++ more) t → w.grownBy w' (some g) → Q .normal a' w') : (Code.region id l.toArray true).wp Try.prog Q a w := by
  refine region_plan2 (fun w' => True) [(0, 0), (1, 0), (2, 0), (3, 0), (4, 0), (5, 0), (6, 0), (7, 0), (8, 0), (9, 0), (10, 0), (11, 0), (12, 0), (14, 0), (15, 0), (18, 0), (19, 0), (22, 0), (23, 0), (26, 0), (27, 0), (13, 1), (16, 0), (17, 1), (20, 0), (21, 1), (24, 0), (25, 1), (28, 0), (29, 2)] rfl hO.ns hO.ok (by rw [hO.len]; rfl) hQ (fun _ _ _ => trivial) ?_
  intro OPS w1 hpW hb1
  have hB0 := hg.kept hb1
  refine plan_k hO.o0 hk (by decide) (by repeat' (first | exact far_nil _ | refine far_cons (by decide) ?_)) (v := .pointer (some ⟨g, 0, none⟩)) (fun o ho w' hS => do_move ho (hk.at (List.mem_cons_of_mem _ (List.mem_cons_self ..)))) ?_
  clear hk; intro a hk
  refine plan_k hO.o1 hk (by decide) (by repeat' (first | exact far_nil _ | refine far_cons (by decide) ?_)) (v := .pointer (some ⟨g, 0, none⟩)) (fun o ho w' hS => do_move ho (hk.at (List.mem_cons_of_mem _ (List.mem_cons_of_mem _ (List.mem_cons_self ..))))) ?_
  clear hk; intro a hk
  refine plan_k hO.o2 hk (by decide) (by repeat' (first | exact far_nil _ | refine far_cons (by decide) ?_)) (v := .pointer (some ⟨g, 0, none⟩)) (fun o ho w' hS => do_move ho (hk.at (List.mem_cons_of_mem _ (List.mem_cons_of_mem _ (List.mem_cons_of_mem _ (List.mem_cons_self ..)))))) ?_
  clear hk; intro a hk
  refine plan_k hO.o3 hk (by decide) (by repeat' (first | exact far_nil _ | refine far_cons (by decide) ?_)) (v := .pointer (some ⟨g, 0, none⟩)) (fun o ho w' hS => do_move ho (hk.at (List.mem_cons_of_mem _ (List.mem_cons_of_mem _ (List.mem_cons_of_mem _ (List.mem_cons_of_mem _ (List.mem_cons_self ..))))))) ?_
  clear hk; intro a hk
  refine plan_k hO.o4 hk (by decide) (by repeat' (first | exact far_nil _ | refine far_cons (by decide) ?_)) (v := .pointer (some ⟨g, 0, none⟩)) (fun o ho w' hS => do_move ho (hk.at (List.mem_cons_of_mem _ (List.mem_cons_of_mem _ (List.mem_cons_of_mem _ (List.mem_cons_of_mem _ (List.mem_cons_of_mem _ (List.mem_cons_self ..)))))))) ?_
  clear hk; intro a hk
  refine plan_k hO.o5 hk (by decide) (by repeat' (first | exact far_nil _ | refine far_cons (by decide) ?_)) (v := .int .u32 (hh.a)) (fun o ho w' hS => do_move ho (hk.at (List.mem_cons_of_mem _ (List.mem_cons_of_mem _ (List.mem_cons_of_mem _ (List.mem_cons_of_mem _ (List.mem_cons_of_mem _ (List.mem_cons_of_mem _ (List.mem_cons_of_mem _ (List.mem_cons_self ..)))))))))) ?_
  clear hk; intro a hk
  refine plan_k hO.o6 hk (by decide) (by repeat' (first | exact far_nil _ | refine far_cons (by decide) ?_)) (v := .int .u32 (hh.b)) (fun o ho w' hS => do_move ho (hk.at (List.mem_cons_of_mem _ (List.mem_cons_of_mem _ (List.mem_cons_of_mem _ (List.mem_cons_of_mem _ (List.mem_cons_of_mem _ (List.mem_cons_of_mem _ (List.mem_cons_of_mem _ (List.mem_cons_of_mem _ (List.mem_cons_of_mem _ (List.mem_cons_self ..)))))))))))) ?_
  clear hk; intro a hk
  refine plan_k hO.o7 hk (by decide) (by repeat' (first | exact far_nil _ | refine far_cons (by decide) ?_)) (v := .int .u32 (hh.c)) (fun o ho w' hS => do_move ho (hk.at (List.mem_cons_of_mem _ (List.mem_cons_of_mem _ (List.mem_cons_of_mem _ (List.mem_cons_of_mem _ (List.mem_cons_of_mem _ (List.mem_cons_of_mem _ (List.mem_cons_of_mem _ (List.mem_cons_of_mem _ (List.mem_cons_of_mem _ (List.mem_cons_of_mem _ (List.mem_cons_of_mem _ (List.mem_cons_self ..)))))))))))))) ?_
  clear hk; intro a hk
  refine plan_k hO.o8 hk (by decide) (by repeat' (first | exact far_nil _ | refine far_cons (by decide) ?_)) (v := .int .u32 (hh.d)) (fun o ho w' hS => do_move ho (hk.at (List.mem_cons_of_mem _ (List.mem_cons_of_mem _ (List.mem_cons_of_mem _ (List.mem_cons_of_mem _ (List.mem_cons_of_mem _ (List.mem_cons_of_mem _ (List.mem_cons_of_mem _ (List.mem_cons_of_mem _ (List.mem_cons_of_mem _ (List.mem_cons_of_mem _ (List.mem_cons_of_mem _ (List.mem_cons_of_mem _ (List.mem_cons_of_mem _ (List.mem_cons_self ..)))))))))))))))) ?_
  clear hk; intro a hk
  refine plan_k hO.o9 hk (by decide) (by repeat' (first | exact far_nil _ | refine far_cons (by decide) ?_)) (v := .int .u32 (hh.e)) (fun o ho w' hS => do_move ho (hk.at (List.mem_cons_of_mem _ (List.mem_cons_of_mem _ (List.mem_cons_of_mem _ (List.mem_cons_of_mem _ (List.mem_cons_of_mem _ (List.mem_cons_of_mem _ (List.mem_cons_of_mem _ (List.mem_cons_of_mem _ (List.mem_cons_of_mem _ (List.mem_cons_of_mem _ (List.mem_cons_of_mem _ (List.mem_cons_of_mem _ (List.mem_cons_of_mem _ (List.mem_cons_of_mem _ (List.mem_cons_of_mem _ (List.mem_cons_self ..)))))))))))))))))) ?_
  clear hk; intro a hk
  refine plan_k hO.o10 hk (by decide) (by repeat' (first | exact far_nil _ | refine far_cons (by decide) ?_)) (v := .pointer (some ⟨g, 0, none⟩)) (fun o ho w' hS => do_nil ho (hk.at (List.mem_cons_of_mem _ (List.mem_cons_of_mem _ (List.mem_cons_of_mem _ (List.mem_cons_of_mem _ (List.mem_cons_of_mem _ (List.mem_cons_of_mem _ (List.mem_cons_of_mem _ (List.mem_cons_of_mem _ (List.mem_cons_of_mem _ (List.mem_cons_self ..)))))))))))) ?_
  clear hk; intro a hk
  refine plan_k hO.o11 hk (by decide) (by repeat' (first | exact far_nil _ | refine far_cons (by decide) ?_)) (v := .pointer (some ⟨g, 0, none⟩)) (fun o ho w' hS => do_field0 ho (hk.at (List.mem_cons_self ..))) ?_
  clear hk; intro a hk
  refine plan_k hO.o12 hk (by decide) (by repeat' (first | exact far_nil _ | refine far_cons (by decide) ?_)) (v := .pointer (some ⟨g, 0, none⟩)) (fun o ho w' hS => do_hat ho (hk.at (List.mem_cons_self ..)) (by decide)) ?_
  clear hk; intro a hk
  refine plan_k hO.o14 hk (by decide) (by repeat' (first | exact far_nil _ | refine far_cons (by decide) ?_)) (v := .pointer (some ⟨g, 0, none⟩)) (fun o ho w' hS => do_nil ho (hk.at (List.mem_cons_of_mem _ (List.mem_cons_of_mem _ (List.mem_cons_of_mem _ (List.mem_cons_of_mem _ (List.mem_cons_of_mem _ (List.mem_cons_of_mem _ (List.mem_cons_of_mem _ (List.mem_cons_of_mem _ (List.mem_cons_of_mem _ (List.mem_cons_of_mem _ (List.mem_cons_of_mem _ (List.mem_cons_self ..)))))))))))))) ?_
  clear hk; intro a hk
  refine plan_k hO.o15 hk (by decide) (by repeat' (first | exact far_nil _ | refine far_cons (by decide) ?_)) (v := .pointer (some ⟨g, 0, none⟩)) (fun o ho w' hS => do_field0 ho (hk.at (List.mem_cons_self ..))) ?_
  clear hk; intro a hk
  refine plan_k hO.o18 hk (by decide) (by repeat' (first | exact far_nil _ | refine far_cons (by decide) ?_)) (v := .pointer (some ⟨g, 0, none⟩)) (fun o ho w' hS => do_nil ho (hk.at (List.mem_cons_of_mem _ (List.mem_cons_of_mem _ (List.mem_cons_of_mem _ (List.mem_cons_of_mem _ (List.mem_cons_of_mem _ (List.mem_cons_of_mem _ (List.mem_cons_of_mem _ (List.mem_cons_of_mem _ (List.mem_cons_of_mem _ (List.mem_cons_of_mem _ (List.mem_cons_of_mem _ (List.mem_cons_of_mem _ (List.mem_cons_self ..))))))))))))))) ?_
  clear hk; intro a hk
  refine plan_k hO.o19 hk (by decide) (by repeat' (first | exact far_nil _ | refine far_cons (by decide) ?_)) (v := .pointer (some ⟨g, 0, none⟩)) (fun o ho w' hS => do_field0 ho (hk.at (List.mem_cons_self ..))) ?_
  clear hk; intro a hk
  refine plan_k hO.o22 hk (by decide) (by repeat' (first | exact far_nil _ | refine far_cons (by decide) ?_)) (v := .pointer (some ⟨g, 0, none⟩)) (fun o ho w' hS => do_nil ho (hk.at (List.mem_cons_of_mem _ (List.mem_cons_of_mem _ (List.mem_cons_of_mem _ (List.mem_cons_of_mem _ (List.mem_cons_of_mem _ (List.mem_cons_of_mem _ (List.mem_cons_of_mem _ (List.mem_cons_of_mem _ (List.mem_cons_of_mem _ (List.mem_cons_of_mem _ (List.mem_cons_of_mem _ (List.mem_cons_of_mem _ (List.mem_cons_of_mem _ (List.mem_cons_self ..)))))))))))))))) ?_
  clear hk; intro a hk
  refine plan_k hO.o23 hk (by decide) (by repeat' (first | exact far_nil _ | refine far_cons (by decide) ?_)) (v := .pointer (some ⟨g, 0, none⟩)) (fun o ho w' hS => do_field0 ho (hk.at (List.mem_cons_self ..))) ?_
  clear hk; intro a hk
  refine plan_k hO.o26 hk (by decide) (by repeat' (first | exact far_nil _ | refine far_cons (by decide) ?_)) (v := .pointer (some ⟨g, 0, none⟩)) (fun o ho w' hS => do_nil ho (hk.at (List.mem_cons_of_mem _ (List.mem_cons_of_mem _ (List.mem_cons_of_mem _ (List.mem_cons_of_mem _ (List.mem_cons_of_mem _ (List.mem_cons_of_mem _ (List.mem_cons_of_mem _ (List.mem_cons_of_mem _ (List.mem_cons_of_mem _ (List.mem_cons_of_mem _ (List.mem_cons_of_mem _ (List.mem_cons_of_mem _ (List.mem_cons_of_mem _ (List.mem_cons_of_mem _ (List.mem_cons_self ..))))))))))))))))) ?_
  clear hk; intro a hk
  refine plan_k hO.o27 hk (by decide) (by repeat' (first | exact far_nil _ | refine far_cons (by decide) ?_)) (v := .pointer (some ⟨g, 0, none⟩)) (fun o ho w' hS => do_field0 ho (hk.at (List.mem_cons_self ..))) ?_
  clear hk; intro a hk
  refine plan_kw hO.o13 fun o ho hd hgd => ?_
  refine wp_store_cell hgd ho (by kernel_rfl) (hk.at (List.mem_cons_of_mem _ (List.mem_cons_of_mem _ (List.mem_cons_of_mem _ (List.mem_cons_of_mem _ (List.mem_cons_of_mem _ (List.mem_cons_of_mem _ (List.mem_cons_of_mem _ (List.mem_cons_of_mem _ (List.mem_cons_self ..)))))))))) (hk.at (List.mem_cons_of_mem _ (List.mem_cons_of_mem _ (List.mem_cons_of_mem _ (List.mem_cons_of_mem _ (List.mem_cons_of_mem _ (List.mem_cons_of_mem _ (List.mem_cons_of_mem _ (List.mem_cons_of_mem _ (List.mem_cons_of_mem _ (List.mem_cons_of_mem _ (List.mem_cons_of_mem _ (List.mem_cons_of_mem _ (List.mem_cons_of_mem _ (List.mem_cons_of_mem _ (List.mem_cons_of_mem _ (List.mem_cons_self ..))))))))))))))))) rfl hB0 (by simp [hcells]) fun w2 b1 g2 s2 => ?_
  rw [hd]
  have gr1 := grown_trans (grown_below hb1 (some g)) g2
  clear g2 s2
  refine ⟨trivial, ?_⟩
  refine plan_k hO.o16 hk (by decide) (by repeat' (first | exact far_nil _ | refine far_cons (by decide) ?_)) (v := .pointer (some ⟨g, 1, none⟩)) (fun o ho w' hS => do_hat ho (hk.at (List.mem_cons_of_mem _ (List.mem_cons_of_mem _ (List.mem_cons_of_mem _ (List.mem_cons_of_mem _ (List.mem_cons_of_mem _ (List.mem_cons_of_mem _ (List.mem_cons_self ..)))))))) (by decide)) ?_
  clear hk; intro a hk
  refine plan_kw hO.o17 fun o ho hd hgd => ?_
  refine wp_store_cell hgd ho (by kernel_rfl) (hk.at (List.mem_cons_self ..)) (hk.at (List.mem_cons_of_mem _ (List.mem_cons_of_mem _ (List.mem_cons_of_mem _ (List.mem_cons_of_mem _ (List.mem_cons_of_mem _ (List.mem_cons_of_mem _ (List.mem_cons_of_mem _ (List.mem_cons_of_mem _ (List.mem_cons_of_mem _ (List.mem_cons_of_mem _ (List.mem_cons_of_mem _ (List.mem_cons_of_mem _ (List.mem_cons_of_mem _ (List.mem_cons_of_mem _ (List.mem_cons_of_mem _ (List.mem_cons_self ..))))))))))))))))) rfl b1 (by simp [hcells]) fun w3 b2 g2 s2 => ?_
  rw [hd]
  have gr2 := grown_trans gr1 g2
  clear g2 s2
  refine ⟨trivial, ?_⟩
  refine plan_k hO.o20 hk (by decide) (by repeat' (first | exact far_nil _ | refine far_cons (by decide) ?_)) (v := .pointer (some ⟨g, 2, none⟩)) (fun o ho w' hS => do_hat ho (hk.at (List.mem_cons_of_mem _ (List.mem_cons_of_mem _ (List.mem_cons_of_mem _ (List.mem_cons_of_mem _ (List.mem_cons_of_mem _ (List.mem_cons_self ..))))))) (by decide)) ?_
  clear hk; intro a hk
  refine plan_kw hO.o21 fun o ho hd hgd => ?_
  refine wp_store_cell hgd ho (by kernel_rfl) (hk.at (List.mem_cons_self ..)) (hk.at (List.mem_cons_of_mem _ (List.mem_cons_of_mem _ (List.mem_cons_of_mem _ (List.mem_cons_of_mem _ (List.mem_cons_of_mem _ (List.mem_cons_of_mem _ (List.mem_cons_of_mem _ (List.mem_cons_of_mem _ (List.mem_cons_of_mem _ (List.mem_cons_of_mem _ (List.mem_cons_of_mem _ (List.mem_cons_of_mem _ (List.mem_cons_of_mem _ (List.mem_cons_of_mem _ (List.mem_cons_of_mem _ (List.mem_cons_self ..))))))))))))))))) rfl b2 (by simp [hcells]) fun w4 b3 g2 s2 => ?_
  rw [hd]
  have gr3 := grown_trans gr2 g2
  clear g2 s2
  refine ⟨trivial, ?_⟩
  refine plan_k hO.o24 hk (by decide) (by repeat' (first | exact far_nil _ | refine far_cons (by decide) ?_)) (v := .pointer (some ⟨g, 3, none⟩)) (fun o ho w' hS => do_hat ho (hk.at (List.mem_cons_of_mem _ (List.mem_cons_of_mem _ (List.mem_cons_of_mem _ (List.mem_cons_of_mem _ (List.mem_cons_self ..)))))) (by decide)) ?_
  clear hk; intro a hk
  refine plan_kw hO.o25 fun o ho hd hgd => ?_
  refine wp_store_cell hgd ho (by kernel_rfl) (hk.at (List.mem_cons_self ..)) (hk.at (List.mem_cons_of_mem _ (List.mem_cons_of_mem _ (List.mem_cons_of_mem _ (List.mem_cons_of_mem _ (List.mem_cons_of_mem _ (List.mem_cons_of_mem _ (List.mem_cons_of_mem _ (List.mem_cons_of_mem _ (List.mem_cons_of_mem _ (List.mem_cons_of_mem _ (List.mem_cons_of_mem _ (List.mem_cons_of_mem _ (List.mem_cons_of_mem _ (List.mem_cons_of_mem _ (List.mem_cons_of_mem _ (List.mem_cons_self ..))))))))))))))))) rfl b3 (by simp [hcells]) fun w5 b4 g2 s2 => ?_
  rw [hd]
  have gr4 := grown_trans gr3 g2
  clear g2 s2
  refine ⟨trivial, ?_⟩
  refine plan_k hO.o28 hk (by decide) (by repeat' (first | exact far_nil _ | refine far_cons (by decide) ?_)) (v := .pointer (some ⟨g, 4, none⟩)) (fun o ho w' hS => do_hat ho (hk.at (List.mem_cons_of_mem _ (List.mem_cons_of_mem _ (List.mem_cons_of_mem _ (List.mem_cons_self ..))))) (by decide)) ?_
  clear hk; intro a hk
  refine plan_kw hO.o29 fun o ho hd hgd => ?_
  refine wp_store_cell hgd ho (by kernel_rfl) (hk.at (List.mem_cons_self ..)) (hk.at (List.mem_cons_of_mem _ (List.mem_cons_of_mem _ (List.mem_cons_of_mem _ (List.mem_cons_of_mem _ (List.mem_cons_of_mem _ (List.mem_cons_of_mem _ (List.mem_cons_of_mem _ (List.mem_cons_of_mem _ (List.mem_cons_of_mem _ (List.mem_cons_of_mem _ (List.mem_cons_of_mem _ (List.mem_cons_of_mem _ (List.mem_cons_of_mem _ (List.mem_cons_of_mem _ (List.mem_cons_of_mem _ (List.mem_cons_self ..))))))))))))))))) rfl b4 (by simp [hcells]) fun w6 b5 g2 s2 => ?_
  rw [hd]
  have gr5 := grown_trans gr4 g2
  clear g2 s2
  refine ⟨trivial, ?_⟩
  refine plan_k0 ?_
  refine h _ _ ?_ b5 gr5
  refine ⟨hk.1, hk.2.1, fun x hx => hk.2.2 x ?_⟩
  rcases List.mem_cons.1 hx with rfl | hx
  · exact List.mem_cons_of_mem _ (List.mem_cons_of_mem _ (List.mem_cons_of_mem _ (List.mem_cons_of_mem _ (List.mem_cons_of_mem _ (List.mem_cons_of_mem _ (List.mem_cons_of_mem _ (List.mem_cons_of_mem _ (List.mem_cons_of_mem _ (List.mem_cons_of_mem _ (List.mem_cons_of_mem _ (List.mem_cons_of_mem _ (List.mem_cons_of_mem _ (List.mem_cons_of_mem _ (List.mem_cons_of_mem _ (List.mem_cons_of_mem _ (List.mem_cons_of_mem _ (List.mem_cons_of_mem _ (List.mem_cons_of_mem _ (List.mem_cons_of_mem _ (List.mem_cons_of_mem _ (List.mem_cons_of_mem _ (List.mem_cons_of_mem _ (List.mem_cons_of_mem _ (List.mem_cons_of_mem _ (List.mem_cons_of_mem _ (List.mem_cons_self ..))))))))))))))))))))))))))
  cases hx
end Go.Proofs.Ytjmmkjdlkecmhaa
