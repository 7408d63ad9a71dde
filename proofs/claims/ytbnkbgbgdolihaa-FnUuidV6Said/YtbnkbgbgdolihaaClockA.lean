/- What the clock's making needs. -/
import Derived.Test.YtbnkbgbgdolihaaTimes
import Derived.Test.YtbnkbgbgdolihaaMore
namespace Go.Proofs.Ytbnkbgbgdolihaa
open Go.RowKit
set_option linter.unusedVariables false
/-- The numbers that the times become, one behind the other. -/
def nowAt (ts : List Nat) : Nat → Nat
  | 0 => 0
  | k + 1 => next7 (nowAt ts k) (ts.getD k 0)
theorem getD_le (ts : List Nat) (h : ∀ t ∈ ts, t ≤ 4102444800000000000) (k : Nat) : ts.getD k 0 ≤ 4102444800000000000 := by
  by_cases hk : k < ts.length
  · have : ts.getD k 0 = ts[k] := by simp [hk]
    rw [this]
    exact h _ (by simp)
  · rw [List.getD_eq_getElem?_getD, List.getElem?_eq_none (by omega)]
    simp
theorem nowAt_le (ts : List Nat) (h : ∀ t ∈ ts, t ≤ 4102444800000000000) : ∀ k, nowAt ts k ≤ 16803614000000000 + k
  | 0 => by simp [nowAt]
  | k + 1 => by
    have h1 := nowAt_le ts h k
    have h2 := now7_le (ts.getD k 0) (getD_le ts h k)
    unfold nowAt next7
    split <;> omega
/-- The UUIDs. -/
def v7s (x : List UInt8) (ts : List Nat) (k : Nat) : List (List UInt8) := (List.range k).map fun j => v7L x (nowAt ts (j + 1))
theorem v7s_succ (x : List UInt8) (ts : List Nat) (k : Nat) : v7s x ts (k + 1) = v7s x ts k ++ [v7L x (nowAt ts (k + 1))] := by simp [v7s, List.range_succ]
theorem v7s_length (x : List UInt8) (ts : List Nat) (k : Nat) : (v7s x ts k).length = k := by simp [v7s]
theorem arr2 : Arr Try.prog 75 2 (List.replicate 2 (.int .u8 0)) where
  und := ⟨_, Try.underlying75, rfl⟩
  size := by kernel_rfl
  zero := fun w => by kernel_rfl
  len := rfl
theorem arr6 : Arr Try.prog 76 6 (List.replicate 6 (.int .u8 0)) where
  und := ⟨_, Try.underlying76, rfl⟩
  size := by kernel_rfl
  zero := fun w => by kernel_rfl
  len := rfl
theorem clockArr : Arr Try.prog 79 12 (clockC 0 [0, 0] [0, 0, 0, 0, 0, 0] 0 0 0) where
  und := ⟨_, Try.underlying79, rfl⟩
  size := by kernel_rfl
  zero := fun w => by kernel_rfl
  len := rfl
theorem still_rdarr {P : Program} {S : World → Prop} {ty n : Nat} {z : List Value} {o : Oper} {a : Act} (T : Arr P ty n z) {x : Operand} (ho : o.op = .load ty x) {b off : Nat} (hx : a.eval x = .pointer (some ⟨b, off, none⟩)) {bs : List UInt8}
    (hg : ∀ w', S w' → Rd w' (some ⟨b, off, none⟩) bs) (hn : bs.length = n) (h0 : 0 < n) : ∀ w', S w' → (execOp a.eval o).run P w' = .ok (.value (.agg (bvs bs).toArray)) w' := by
  intro w' hS
  obtain ⟨d, hu, hd⟩ := T.und
  obtain ⟨b', off', he, hc⟩ := (hg w' hS).2.resolve_left (by intro h; simp [h] at hn; omega)
  simp only [Option.some.injEq, Addr.mk.injEq] at he
  obtain ⟨rfl, rfl, -⟩ := he
  have hr : w'.rangeAt b off (bvs bs) := by
    intro j v hv
    have hj : j < bs.length := by have := (List.getElem?_eq_some_iff.1 hv).1; simpa [bvs] using this
    rw [hc j hj, ← hv, bvs_get bs j hj]
  unfold execOp
  simp only [ho, hx, Sem.run_bind, run_loadAt_mid w' b off ty (bvs bs) d hr hu hd (by rw [T.size, bvs_length, hn]), Result.andThen_ok, Sem.run_pure]
theorem still_s2a {P : Program} {S : World → Prop} {o : Oper} {a : Act} {t e n : Nat} {x : Operand} (ho : o.op = .sliceToArrayPointer t x) (hu : P.underlying t = some (.array n e)) {ad : Option Addr} {len c : Nat} (hx : a.eval x = .slice ad len c) (hl : n ≤ len) :
    ∀ w', S w' → (execOp a.eval o).run P w' = .ok (.value (.pointer ad)) w' := by
  intro w' _
  have h1 : ¬ len < n := by omega
  unfold execOp
  simp [ho, hx, Instr.arrayAt, run_underlying hu, Result.andThen, h1]
theorem still_build2 {P : Program} {S : World → Prop} {o : Oper} {a : Act} {t : TypeId} {i j : Nat} {x y : Operand} (ho : o.op = .build t #[(i, x), (j, y)]) {u v r : Value} (hx : a.eval x = u) (hy : a.eval y = v) (hb : ∀ w', (Instr.build t #[(i, u), (j, v)]).run P w' = .ok r w') :
    ∀ w', S w' → (execOp a.eval o).run P w' = .ok (.value r) w' := by
  intro w' _
  unfold execOp
  simp [ho, hx, hy, hb w', Result.andThen]
theorem build_clock (r0 r1 n0 n1 n2 n3 n4 n5 : UInt8) (w : World) : (Instr.build 79 #[(1, .agg (bvs [r0, r1]).toArray), (2, .agg (bvs [n0, n1, n2, n3, n4, n5]).toArray)]).run Try.prog w = .ok (.agg (clockC 0 [r0, r1] [n0, n1, n2, n3, n4, n5] 0 0 0).toArray) w := by kernel_rfl
/-- No slice among them is longer than its room. -/
def CapOk (vals : List Value) : Prop := ∀ (a : Option Addr) (l c : Nat), Value.slice a l c ∈ vals → l ≤ c
theorem CapOk.nil : CapOk [] := fun _ _ _ h => by simp at h
theorem CapOk.snoc {vals : List Value} (h : CapOk vals) {a : Option Addr} {l c : Nat} (hc : l ≤ c) : CapOk (vals ++ [.slice a l c]) := by
  intro a' l' c' hm
  rcases List.mem_append.1 hm with hm | hm
  · exact h a' l' c' hm
  · simp only [List.mem_singleton, Value.slice.injEq] at hm
    obtain ⟨-, rfl, rfl⟩ := hm
    exact hc
/-- A slice of byte slices, read, with their rooms. -/
def RdC (w : World) (a : Option Addr) (ls : List (List UInt8)) : Prop :=
  ls = [] ∨ ∃ b off, a = some ⟨b, off, none⟩ ∧ ∀ i, i < ls.length → ∃ gi ci, w.cell? ⟨b, off + i, none⟩ = some (.slice (some ⟨gi, 0, none⟩) (ls.getD i []).length ci) ∧ (ls.getD i []).length ≤ ci ∧ Rd w (some ⟨gi, 0, none⟩) (ls.getD i [])
theorem Elems.rdC {w : World} {base base' e t : Nat} {v : Value} {vals : List Value} {ls : List (List UInt8)} (ho : w.ownsRow base e 1 v vals.length vals) (h : Elems w base' t vals ls) (hcap : CapOk vals) :
    ∃ a cap, v = .slice a ls.length cap ∧ RdC w a ls := by
  rcases ho.2 with ⟨rfl, hn⟩ | ⟨g, cap, cur, rfl, _, hg, _, _, hs, htake⟩
  · have : ls = [] := List.eq_nil_of_length_eq_zero (by rw [← h.1]; exact hn)
    subst this
    exact ⟨none, 0, rfl, .inl rfl⟩
  · refine ⟨some ⟨g, 0, none⟩, cap, by rw [h.1], .inr ⟨g, 0, rfl, fun i hi => ?_⟩⟩
    obtain ⟨gi, ci, more, h1, _, h3, h4⟩ := h.2 i hi
    refine ⟨gi, ci, ?_, hcap _ _ _ (List.mem_of_getElem? h1), h4.rdMore h3⟩
    rw [cell_of_row w g _ cur e (0, 0) hg, Nat.zero_add, ← h1, ← htake]
    rw [List.getElem?_take, if_pos (by rw [h.1]; omega)]
    simp
end Go.Proofs.Ytbnkbgbgdolihaa
