/- What an iterator of a compressed set is in memory, and what its next step needs. -/
import Derived.Test.YtbacbgicfomkbaaKAppL
import Derived.Test.YtbacbgicfomkbaaTree
namespace Go.Proofs.Ytbacbgicfomkbaa
open Go.RowKit
set_option linter.unusedVariables false
set_option linter.unusedSimpArgs false
theorem mh {α : Type} {a : α} {l : List α} : a ∈ a :: l := List.mem_cons_self ..
theorem mt {α : Type} {a b : α} {l : List α} (h : a ∈ l) : a ∈ b :: l := List.mem_cons_of_mem _ h
/-- An iterator: the KSUID, the content, the place, how many are to come in a run, the time, the last payload. -/
def itC (k : List UInt8) (sl : Value) (off seq ts v : Nat) : List Value := bvs k ++ (sl :: .int .i64 (off : Int) :: .int .u64 (seq : Int) :: .int .u32 (ts : Int) :: uN v)
section
variable {k k' : List UInt8} {sl : Value} {off seq ts v : Nat}
theorem itC_length (h : k.length = 20) : (itC k sl off seq ts v).length = 26 := by simp [itC, uN, u128, bvs_length, h]
theorem itC_at (h : k.length = 20) (i : Nat) : (itC k sl off seq ts v)[20 + i]? = (sl :: .int .i64 (off : Int) :: .int .u64 (seq : Int) :: .int .u32 (ts : Int) :: uN v)[i]? := by
  unfold itC
  rw [List.getElem?_append_right (by rw [bvs_length, h]; omega), bvs_length, h, Nat.add_sub_cancel_left]
theorem itC_sl (h : k.length = 20) : (itC k sl off seq ts v)[20]? = some sl := itC_at h 0
theorem itC_off (h : k.length = 20) : (itC k sl off seq ts v)[21]? = some (.int .i64 (off : Int)) := itC_at h 1
theorem itC_seq (h : k.length = 20) : (itC k sl off seq ts v)[22]? = some (.int .u64 (seq : Int)) := itC_at h 2
theorem itC_ts (h : k.length = 20) : (itC k sl off seq ts v)[23]? = some (.int .u32 (ts : Int)) := itC_at h 3
theorem itC_k (h : k.length = 20) : ((itC k sl off seq ts v).drop 0).take 20 = bvs k := by
  unfold itC
  rw [List.drop_zero, List.take_left' (by rw [bvs_length, h])]
theorem itC_v (h : k.length = 20) : ((itC k sl off seq ts v).drop 24).take 2 = uN v := by
  unfold itC
  rw [List.drop_append, bvs_length, h, List.drop_of_length_le (by rw [bvs_length, h]; decide)]
  rfl
theorem itC_set_at (h : k.length = 20) (i : Nat) (x : Value) : (itC k sl off seq ts v).set (20 + i) x = bvs k ++ (sl :: .int .i64 (off : Int) :: .int .u64 (seq : Int) :: .int .u32 (ts : Int) :: uN v).set i x := by
  unfold itC
  rw [List.set_append_right _ _ (by rw [bvs_length, h]; omega), bvs_length, h, Nat.add_sub_cancel_left]
theorem itC_set_off (h : k.length = 20) (x : Nat) : (itC k sl off seq ts v).set 21 (.int .i64 (x : Int)) = itC k sl x seq ts v := itC_set_at h 1 _
theorem itC_set_seq (h : k.length = 20) (x : Nat) : (itC k sl off seq ts v).set 22 (.int .u64 (x : Int)) = itC k sl off x ts v := itC_set_at h 2 _
theorem itC_set_ts (h : k.length = 20) (x : Nat) : (itC k sl off seq ts v).set 23 (.int .u32 (x : Int)) = itC k sl off seq x v := itC_set_at h 3 _
theorem itC_put_k (h : k.length = 20) (h' : k'.length = 20) : splice (itC k sl off seq ts v) 0 (bvs k') = itC k' sl off seq ts v := by
  unfold itC splice
  rw [List.take_zero, List.nil_append, Nat.zero_add, bvs_length, h', List.drop_left' (by rw [bvs_length, h])]
theorem itC_put_v (h : k.length = 20) (x : Nat) : splice (itC k sl off seq ts v) 24 (uN x) = itC k sl off seq ts x := by
  have e := splice_left (bvs k) (sl :: .int .i64 (off : Int) :: .int .u64 (seq : Int) :: .int .u32 (ts : Int) :: uN v) (uN x) 20 4 (by rw [bvs_length, h])
  unfold itC
  exact e
theorem splice_app {α : Type} (A A' L m : List α) (k : Nat) (h : k + m.length ≤ A.length) (hA : splice A k m = A') : splice (A ++ L) k m = A' ++ L := by
  subst hA
  unfold splice
  rw [List.take_append_of_le_length (by omega), List.drop_append_of_le_length h, List.append_assoc, List.append_assoc]
theorem itC_put_4 (h : k.length = 20) (t : Nat) : splice (itC k sl off seq ts v) 0 (bvs (be 4 t)) = itC (be 4 t ++ k.drop 4) sl off seq ts v := by
  unfold itC
  refine splice_app _ _ _ _ _ (by rw [bvs_length, bvs_length, be_length, h]; decide) ?_
  rw [bvs_append, splice, List.take_zero, List.nil_append, Nat.zero_add, bvs_length, be_length]
  congr 1
  simp [bvs]
theorem itC_put_16 (t : Nat) {q p : List UInt8} (hq : q.length = 16) (hp : p.length = 16) : splice (itC (be 4 t ++ q) sl off seq ts v) 4 (bvs p) = itC (be 4 t ++ p) sl off seq ts v := by
  unfold itC
  refine splice_app _ _ _ _ _ (by rw [bvs_length, bvs_length, List.length_append, be_length, hq, hp]; decide) ?_
  rw [bvs_append, bvs_append, splice, List.take_left' (by rw [bvs_length, be_length]), List.drop_of_length_le (by rw [List.length_append, bvs_length, bvs_length, bvs_length, be_length, hq, hp]; decide), List.append_nil]
end
theorem it_length (t : Nat) {p : List UInt8} (h : p.length = 16) : (be 4 t ++ p).length = 20 := by rw [List.length_append, be_length, h]
theorem rd_cell {w : World} {b o : Nat} {c : List UInt8} (h : Rd w (some ⟨b, o, none⟩) c) (i : Nat) (hi : i < c.length) : w.cell? ⟨b, o + i, none⟩ = some (.int .u8 (B c i)) := by
  rcases h.2 with h0 | ⟨b', o', he, hc⟩
  · subst h0; simp at hi
  · simp only [Option.some.injEq, Addr.mk.injEq] at he
    obtain ⟨rfl, rfl, -⟩ := he
    exact hc i hi
theorem rd_sub {w : World} {b o : Nat} {c p q : List UInt8} {i : Nat} (h : Rd w (some ⟨b, o, none⟩) c) (hd : c.drop i = p ++ q) (hp : 0 < p.length) : Rd w (some ⟨b, o + i, none⟩) p := by
  have hl : i + (p.length + q.length) ≤ c.length := by
    have := congrArg List.length hd
    rw [List.length_drop, List.length_append] at this
    omega
  have := h.part i p.length (by omega) hp
  rw [hd, List.take_left' rfl, Option.map_some, Addr.add_mid] at this
  exact this
theorem B_of_drop {c q : List UInt8} {i : Nat} {x : UInt8} (hd : c.drop i = x :: q) : B c i = x.toNat ∧ i < c.length ∧ c.drop (i + 1) = q := by
  have hl : i < c.length := by
    refine Nat.lt_of_not_le fun h => ?_
    rw [List.drop_of_length_le h] at hd
    cases hd
  have e := List.drop_eq_getElem_cons hl
  rw [hd] at e
  injection e with e1 e2
  refine ⟨?_, hl, e2.symm⟩
  unfold B
  rw [List.getD_eq_getElem?_getD, List.getElem?_eq_getElem hl, e1]
  rfl
section
variable {P : Program} {a : Act} {w : World} {o : Oper} {x y z : Operand} {t e : Nat}
theorem do_sliceM (ho : o.op = .slice t x (some y) (some z) none) (hu : P.underlying t = some (.slice e)) (hs : (P.info? e).map (·.size) = some 1)
    {b off n c i m : Nat} (hx : a.eval x = .slice (some ⟨b, off, none⟩) n c) (hy : a.eval y = .int .i64 (i : Int)) (hz : a.eval z = .int .i64 ((i + m : Nat) : Int)) (hm : 0 < m) (hj : i + m ≤ c) : (execOp a.eval o).run P w = .ok (.value (.slice (some ⟨b, off + i, none⟩) m (c - i))) w := by
  have := still_slice_ij (S := fun _ => True) (j := i + m) ho hu hs hx hy hz (by omega) hj (by omega) w trivial
  rwa [Nat.add_sub_cancel_left] at this
theorem do_andC {c : Int} {u : Nat} (ho : o.op = .binOp .and t x (.const (.int .i64 c)) u) (hu : P.underlying t = some (.int .i64)) {m r : Nat} (hx : a.eval x = .int .i64 ((m : Nat) : Int)) (hb : bits .and .i64 (m : Int) c = ((r : Nat) : Int)) : (execOp a.eval o).run P w = .ok (.value (.int .i64 ((r : Nat) : Int))) w := by
  have hc : a.eval (.const (.int .i64 c)) = .int .i64 c := rfl
  unfold execOp
  simp only [ho, hx, hc]
  go_simp
theorem do_eqT {u : Nat} {k : IntKind} {m n : Nat} (ho : o.op = .binOp .eql t x y u) (hu : P.underlying t = some (.int k)) (hx : a.eval x = .int k (m : Int)) (hy : a.eval y = .int k (n : Int)) (h : m = n) : (execOp a.eval o).run P w = .ok (.value (.bool true)) w := by rw [← decide_eq_true h]; exact do_eql ho hu hx hy
theorem do_eqF {u : Nat} {k : IntKind} {m n : Nat} (ho : o.op = .binOp .eql t x y u) (hu : P.underlying t = some (.int k)) (hx : a.eval x = .int k (m : Int)) (hy : a.eval y = .int k (n : Int)) (h : ¬ m = n) : (execOp a.eval o).run P w = .ok (.value (.bool false)) w := by rw [← decide_eq_false h]; exact do_eql ho hu hx hy
theorem do_neT {u : Nat} {k : IntKind} {m n : Nat} (ho : o.op = .binOp .neq t x y u) (hu : P.underlying t = some (.int k)) (hx : a.eval x = .int k (m : Int)) (hy : a.eval y = .int k (n : Int)) (h : ¬ m = n) : (execOp a.eval o).run P w = .ok (.value (.bool true)) w := by rw [← decide_eq_true h]; exact do_neq ho hu hx hy
theorem do_neF {u : Nat} {k : IntKind} {m n : Nat} (ho : o.op = .binOp .neq t x y u) (hu : P.underlying t = some (.int k)) (hx : a.eval x = .int k (m : Int)) (hy : a.eval y = .int k (n : Int)) (h : m = n) : (execOp a.eval o).run P w = .ok (.value (.bool false)) w := by rw [← decide_eq_false (show ¬ ¬ m = n from fun c => c h)]; exact do_neq ho hu hx hy
end
theorem tag64 : ∀ n : Fin 17, bits .and .i64 ((64 + (n : Nat) : Nat) : Int) 192 = ((64 : Nat) : Int) ∧ bits .and .i64 ((64 + (n : Nat) : Nat) : Int) (-193) = ((n : Nat) : Int) := by decide
theorem tag128 : ∀ n : Fin 17, bits .and .i64 ((128 + (n : Nat) : Nat) : Int) 192 = ((128 : Nat) : Int) ∧ bits .and .i64 ((128 + (n : Nat) : Nat) : Int) (-193) = ((n : Nat) : Int) := by decide
theorem tag192 : ∀ n : Fin 17, bits .and .i64 ((192 + (n : Nat) : Nat) : Int) 192 = ((192 : Nat) : Int) ∧ bits .and .i64 ((192 + (n : Nat) : Nat) : Int) (-193) = ((n : Nat) : Int) := by decide
theorem tag0 : bits .and .i64 ((0 : Nat) : Int) 192 = ((0 : Nat) : Int) ∧ bits .and .i64 ((0 : Nat) : Int) (-193) = ((0 : Nat) : Int) := by decide
section
variable {P : Program} {OPS : Array Oper} {Q : Exit → Act → World → Prop} {S : World → Prop} {a : Act} {w : World} {n : Nat} {L : List (Nat × Value)}
theorem tree_k {t : OTree} {o : Oper} {d : Nat} {v : Value} (h2 : o.dst = some d) (h3 : o.guard = none) (hk : Keeps n L a) (hd : d < n) (hf : ∀ x ∈ L, d ≠ x.1) (hy : ∀ w', S w' → (execOp a.eval o).run P w' = .ok (.value v) w') (h : ∀ a', Keeps n ((d, v) :: L) a' → wpTree P OPS Q S t a' w) : wpTree P OPS Q S (.op 0 o t) a w := by
  refine tree_still (v := v) (wanted_free h3) hy ?_
  rw [h2]
  exact h _ (hk.push hd hf)
end
theorem num_be_lt (n d : Nat) (h : d < 256 ^ n) : num (be n d) = d := by rw [num_be]; exact Nat.mod_eq_of_lt h
theorem toNat_of (n : Nat) (h : n < 256) : (UInt8.ofNat n).toNat = n := by rw [UInt8.toNat_ofNat', Nat.mod_eq_of_lt h]
theorem varint32d {a1 : Option Addr} {d m cap : Nat} {w : World} (h : Rd w a1 (be m d)) (h1 : 1 ≤ m) (h4 : m ≤ 4) (hd : d < 256 ^ m) : Calls Try.prog 65 #[.slice a1 m cap] w fun e w' => e = .returned (.int .u32 (d : Int)) ∧ Below w.heap.size w w' := by
  have := varint32_ok a1 (be m d) m cap w h (be_length m d) h1 h4
  rwa [num_be_lt m d hd] at this
theorem varint64d {a1 : Option Addr} {d m cap : Nat} {w : World} (h : Rd w a1 (be m d)) (h1 : 1 ≤ m) (h4 : m ≤ 8) (hd : d < 256 ^ m) : Calls Try.prog 68 #[.slice a1 m cap] w fun e w' => e = .returned (.int .u64 (d : Int)) ∧ Below w.heap.size w w' := by
  have := varint64_ok a1 (be m d) m cap w h (be_length m d) h1 h4
  rwa [num_be_lt m d hd] at this
theorem varint128d {a1 : Option Addr} {d m cap : Nat} {w : World} (h : Rd w a1 (be m d)) (h1 : 1 ≤ m) (h4 : m ≤ 16) (hd : d < 256 ^ m) : Calls Try.prog 67 #[.slice a1 m cap] w fun e w' => e = .returned (.agg (uN d).toArray) ∧ Below w.heap.size w w' := by
  have := varint128_ok a1 (be m d) m cap w h (be_length m d) h1 h4
  rwa [num_be_lt m d hd] at this
theorem payload_tp (t : Nat) (p : List UInt8) (w : World) (hp : p.length = 16) : Calls Try.prog 60 #[.agg (bvs (be 4 t ++ p)).toArray] w fun e w' => e = .returned (.agg (uN (num p)).toArray) ∧ Below w.heap.size w w' := by
  have := payloadN_ok (be 4 t ++ p) w (it_length t hp)
  have e : vOf (be 4 t ++ p) = num p := by unfold vOf; rw [List.drop_left' (be_length 4 t)]
  rwa [e] at this
theorem nil_then {P : Program} {OPS : Array Oper} {K : Act → World → Prop} {Q : Exit → Act → World → Prop} {a : Act} {w : World} (h : K a w) : wpList P OPS (Exit.then K Q) [] a w := h
end Go.Proofs.Ytbacbgicfomkbaa
