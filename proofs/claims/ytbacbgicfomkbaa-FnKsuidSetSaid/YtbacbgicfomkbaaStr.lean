/- Laws on texts: parts of a text, and texts one behind the other. -/
import Derived.Test.YtbacbgicfomkbaaTextK
import Derived.Test.YtbacbgicfomkbaaMore
namespace Go.Proofs.Ytbacbgicfomkbaa
open Go.RowKit
set_option linter.unusedSimpArgs false
theorem bytes_add (p q : List UInt8) : (⟨p.toArray⟩ : ByteArray) ++ ⟨q.toArray⟩ = ⟨(p ++ q).toArray⟩ := by
  apply ByteArray.ext
  simp [ByteArray.data_append]
theorem bytes_part (p : List UInt8) (i j : Nat) : (⟨p.toArray⟩ : ByteArray).extract i j = ⟨((p.drop i).take (j - i)).toArray⟩ := by
  apply ByteArray.ext
  simp [ByteArray.data_extract]
theorem run_str_add {P : Program} (t : TypeId) (p q : List UInt8) (hl : p.length + q.length ≤ 8388608) (w : World) : (binOp .add t (str p) (str q)).run P w = .ok (str (p ++ q)) w := by
  unfold str
  have h1 : ((⟨p.toArray⟩ : ByteArray).size : Int) ≤ 8388608 := by simp [ByteArray.size]; omega
  have h2 : ((⟨q.toArray⟩ : ByteArray).size : Int) ≤ 8388608 := by simp [ByteArray.size]; omega
  have h := run_string_add (P := P) (w := w) ⟨p.toArray⟩ ⟨q.toArray⟩ h1 h2
  rw [binOp_string_add, h, bytes_add]
section
variable {P : Program} {ops : Array Oper} {S : World → Prop}
theorem still_str_add {o : Oper} {a : Act} {t u : TypeId} {x y : Operand} (ho : o.op = .binOp .add t x y u) {p q : List UInt8} (hx : a.eval x = str p) (hy : a.eval y = str q) (hl : p.length + q.length ≤ 8388608) :
    ∀ w', S w' → (execOp a.eval o).run P w' = .ok (.value (str (p ++ q))) w' := by
  intro w' _
  unfold execOp
  simp [ho, hx, hy, Sem.run_bind, run_str_add t p q hl, Result.andThen, eqGuard]
theorem still_str_part {o : Oper} {a : Act} {t : TypeId} {x : Operand} {y z : Option Operand} (ho : o.op = .slice t x y z none) (hu : P.underlying t = some .string) {p q : List UInt8} (hx : a.eval x = str p) (i j : Nat)
    (hy : y.map a.eval = if i = 0 ∧ y = none then none else some (.int .i64 (i : Int))) (hz : z.map a.eval = if j = p.length ∧ z = none then none else some (.int .i64 (j : Int))) (hij : i ≤ j) (hj : j ≤ p.length) (hq : (p.drop i).take (j - i) = q) :
    ∀ w', S w' → (execOp a.eval o).run P w' = .ok (.value (str q)) w' := by
  intro w' _
  subst hq
  have hs : (⟨p.toArray⟩ : ByteArray).size = p.length := by simp [ByteArray.size]
  cases y with
  | none =>
    have h0 : i = 0 := by
      by_cases h : i = 0
      · exact h
      · simp [h] at hy
    subst h0
    cases z with
    | none =>
      have h1 : j = p.length := by
        by_cases h : j = p.length
        · exact h
        · simp [h] at hz
      subst h1
      unfold execOp
      simp [ho, hx, str, Instr.sliceAt, run_underlying hu, Instr.slice, Instr.sliceBounds, Instr.sliceBound, asIntOf, Result.andThen, hs, bytes_part]
    | some z =>
      simp at hz
      unfold execOp
      simp [ho, hx, hz, str, Instr.sliceAt, run_underlying hu, Instr.slice, Instr.sliceBounds, Instr.sliceBound, asIntOf, Result.andThen, hs, bytes_part, hj]
  | some y =>
    simp at hy
    cases z with
    | none =>
      have h1 : j = p.length := by
        by_cases h : j = p.length
        · exact h
        · simp [h] at hz
      subst h1
      unfold execOp
      simp [ho, hx, hy, str, Instr.sliceAt, run_underlying hu, Instr.slice, Instr.sliceBounds, Instr.sliceBound, asIntOf, Result.andThen, hs, bytes_part, hij]
    | some z =>
      simp at hz
      unfold execOp
      simp [ho, hx, hy, hz, str, Instr.sliceAt, run_underlying hu, Instr.slice, Instr.sliceBounds, Instr.sliceBound, asIntOf, Result.andThen, hs, bytes_part, hij, hj]
theorem still_str_to {o : Oper} {a : Act} {t : TypeId} {x z : Operand} (ho : o.op = .slice t x none (some z) none) (hu : P.underlying t = some .string) {p : List UInt8} (hx : a.eval x = str p) (j : Nat)
    (hz : a.eval z = .int .i64 (j : Int)) (hj : j ≤ p.length) : ∀ w', S w' → (execOp a.eval o).run P w' = .ok (.value (str (p.take j))) w' :=
  still_str_part ho hu hx 0 j (by simp) (by simp [hz]) (Nat.zero_le _) hj (by simp)
theorem still_str_ij {o : Oper} {a : Act} {t : TypeId} {x y z : Operand} (ho : o.op = .slice t x (some y) (some z) none) (hu : P.underlying t = some .string) {p : List UInt8} (hx : a.eval x = str p) (i j : Nat)
    (hy : a.eval y = .int .i64 (i : Int)) (hz : a.eval z = .int .i64 (j : Int)) (hij : i ≤ j) (hj : j ≤ p.length) : ∀ w', S w' → (execOp a.eval o).run P w' = .ok (.value (str ((p.drop i).take (j - i)))) w' :=
  still_str_part ho hu hx i j (by simp [hy]) (by simp [hz]) hij hj rfl
theorem still_str_from {o : Oper} {a : Act} {t : TypeId} {x y : Operand} (ho : o.op = .slice t x (some y) none none) (hu : P.underlying t = some .string) {p : List UInt8} (hx : a.eval x = str p) (i : Nat)
    (hy : a.eval y = .int .i64 (i : Int)) (hi : i ≤ p.length) : ∀ w', S w' → (execOp a.eval o).run P w' = .ok (.value (str (p.drop i))) w' :=
  still_str_part ho hu hx i p.length (by simp [hy]) (by simp) hi (Nat.le_refl _) (by rw [List.take_of_length_le]; simp)
end
/-- copy of a whole text into a part of a block. -/
theorem wp_copy_strall {P : Program} {ops : Array Oper} {rest : List Oper} {o : Oper} {a : Act} {w : World} {Q : Exit → Act → World → Prop} (hgd : o.guard = none) {d s : Operand} {dT sT : TypeId}
    (ho : o.op = .call { callee := .builtin .copy, args := #[d, s], argTypes := #[dT, sT] }) {elem : TypeId} (hu : P.underlying dT = some (.slice elem)) (hsz : (P.info? elem).map (·.size) = some 1)
    {g off dLen dCap : Nat} (hd : a.eval d = .slice (some ⟨g, off, none⟩) dLen dCap) {sl : List UInt8} (hs : a.eval s = .string ⟨sl.toArray⟩) {cs : List Value} {t : TypeId} (hg : Blk w g cs t) {n : Nat} (hn : sl.length = n) (hdl : n ≤ dLen) (hfit : off + n ≤ cs.length)
    (h : ∀ w', Blk w' g (splice cs off (bvs (sl))) t → w.grownBy w' (some g) → wpList P ops Q rest (a.put o.dst (.int .i64 n)) w') : wpList P ops Q (o :: rest) a w := by
  refine wpList_plain hgd fun K hK => ?_
  subst hn
  have hlen : (bvs sl).length = sl.length := by rw [bvs_length]
  have hst := run_storeCells_at P g off t (bvs (sl)) 0 cs.toArray w hg (by rw [hlen]; simpa using hfit) (bvs_one _)
  have e : (cs.toArray.toList.take (off + 0) ++ bvs (sl) ++ cs.toArray.toList.drop (off + 0 + (bvs (sl)).length)).toArray = (splice cs off (bvs (sl))).toArray := by simp [splice]
  rw [e] at hst
  have hmin : Nat.min (⟨sl.toArray⟩ : ByteArray).size dLen = sl.length := Nat.min_eq_left hdl
  have htk : List.take sl.length (List.map (fun b : UInt8 => Value.int IntKind.u8 (b.toNat : Int)) sl) = bvs sl := by
    rw [List.take_of_length_le (by simp)]; rfl
  cases hq : P.info? elem with
  | none => simp [hq] at hsz
  | some i =>
    have hrun : (Builtin.copy_ #[dT, sT] o.type #[.slice (some ⟨g, off, none⟩) dLen dCap, .string ⟨sl.toArray⟩]).run P w = .ok (.int .i64 sl.length) (w.setRow g (splice cs off (bvs (sl))).toArray) := by
      simp [Builtin.copy_, run_underlying hu, Builtin.lenOf, Builtin.firstCells, sizeOf, typeInfo, hq, hmin]
      rw [htk, hst]
      simp [Result.andThen, goInt]
    unfold Oper.wp
    simp [execOp, ho, resolve, invoke, builtin, hd, hs, hrun, Result.andThen]
    exact hK _ _ (h _ (setRow_heap w g _ _ t _ hg) ⟨rfl, rfl, rfl, by simp, fun k _ hk => setRow_other w g k _ (by simpa using hk)⟩)
end Go.Proofs.Ytbacbgicfomkbaa
