/- More laws, over any program: what only reads, inside a region that draws its order. -/
import Derived.Test.YtbacbgicfomkbaaDraw
namespace Go.Proofs.Ytbacbgicfomkbaa
open Go.RowKit
section
variable {P : Program} {ops : Array Oper} {Q : Exit → Act → World → Prop} {S : World → Prop}
/-- The head of a slice: 'x[:k]'. -/
theorem still_slice_to {o : Oper} {a : Act} {t e : TypeId} {x y : Operand} (ho : o.op = .slice t x none (some y) none) (hu : P.underlying t = some (.slice e)) (hs : (P.info? e).map (·.size) = some 1)
    {ad : Option Addr} {n c k : Nat} (hx : a.eval x = .slice ad n c) (hy : a.eval y = .int .i64 (k : Int)) (hk : k ≤ c) (h0 : 0 < c) : ∀ w', S w' → (execOp a.eval o).run P w' = .ok (.value (.slice ad k c)) w' := by
  intro w' _
  cases hq : P.info? e with
  | none => simp [hq] at hs
  | some inf =>
    have h1 : ¬ c = 0 := by omega
    unfold execOp
    simp [ho, hx, hy, Instr.sliceAt, run_underlying hu, Instr.slice, Instr.sliceBounds, Instr.sliceBound, asIntOf, sizeOf, typeInfo, hq, Result.andThen, hk, h1]
    cases ad <;> simp [Addr.add]
/-- A part of a slice: 'x[i:j]'. -/
theorem still_slice_ij {o : Oper} {a : Act} {t e : TypeId} {x y z : Operand} (ho : o.op = .slice t x (some y) (some z) none) (hu : P.underlying t = some (.slice e)) (hs : (P.info? e).map (·.size) = some 1)
    {b off n c i j : Nat} (hx : a.eval x = .slice (some ⟨b, off, none⟩) n c) (hy : a.eval y = .int .i64 (i : Int)) (hz : a.eval z = .int .i64 (j : Int)) (hij : i ≤ j) (hj : j ≤ c) (hi : i < c) : ∀ w', S w' → (execOp a.eval o).run P w' = .ok (.value (.slice (some ⟨b, off + i, none⟩) (j - i) (c - i))) w' := by
  intro w' _
  cases hq : P.info? e with
  | none => simp [hq] at hs
  | some inf =>
    have hs1 : inf.size = 1 := by simpa [hq] using hs
    have h1 : ¬ c = i := by omega
    unfold execOp
    simp [ho, hx, hy, hz, Instr.sliceAt, run_underlying hu, Instr.slice, Instr.sliceBounds, Instr.sliceBound, asIntOf, sizeOf, typeInfo, hq, Result.andThen, hj, hij, h1, hs1, Addr.add]
/-- The tail of a slice: 'x[i:]', where something is left of its room. -/
theorem still_slice_from {o : Oper} {a : Act} {t e : TypeId} {x y : Operand} (ho : o.op = .slice t x (some y) none none) (hu : P.underlying t = some (.slice e)) (hs : (P.info? e).map (·.size) = some 1)
    {b off n c k : Nat} (hx : a.eval x = .slice (some ⟨b, off, none⟩) n c) (hy : a.eval y = .int .i64 (k : Int)) (hk : k ≤ n) (hc : k < c) : ∀ w', S w' → (execOp a.eval o).run P w' = .ok (.value (.slice (some ⟨b, off + k, none⟩) (n - k) (c - k))) w' := by
  intro w' _
  cases hq : P.info? e with
  | none => simp [hq] at hs
  | some inf =>
    have hs1 : inf.size = 1 := by simpa [hq] using hs
    have h1 : ¬ c = k := by omega
    unfold execOp
    simp [ho, hx, hy, Instr.sliceAt, run_underlying hu, Instr.slice, Instr.sliceBounds, Instr.sliceBound, asIntOf, sizeOf, typeInfo, hq, Result.andThen, hk, h1, hs1, Addr.add]
end
end Go.Proofs.Ytbacbgicfomkbaa
