/- What the tries of random do with their bytes: plain laws, and laws of single operations. -/
import Derived.Test.YtcojcohipmoopaaMLen
namespace Go.Proofs.Ytcojcohipmoopaa
open Go.RowKit
set_option linter.unusedVariables false
set_option linter.unusedSimpArgs false
/-- The number whose first byte counts least. -/
def lnum : List UInt8 → Nat
  | [] => 0
  | b :: bs => b.toNat + 256 * lnum bs
theorem num_append1 (xs : List UInt8) (b : UInt8) : num (xs ++ [b]) = num xs * 256 + b.toNat := by simp [num, List.foldl_append]
theorem num_rev : ∀ bs : List UInt8, num bs.reverse = lnum bs
  | [] => rfl
  | b :: bs => by rw [List.reverse_cons, num_append1, num_rev bs, lnum]; omega
theorem lnum_zero : ∀ (k : Nat) (bs : List UInt8), (∀ i, k ≤ i → B bs i = 0) → lnum bs < 256 ^ k
  | _, [], _ => by rw [lnum]; exact Nat.pow_pos (by decide)
  | 0, b :: bs, h => by
    have h0 : b.toNat = 0 := h 0 (Nat.le_refl _)
    have h1 := lnum_zero 0 bs (fun i hi => h (i + 1) (Nat.zero_le _))
    rw [lnum, h0]
    omega
  | k + 1, b :: bs, h => by
    have h1 := lnum_zero k bs (fun i hi => h (i + 1) (by omega))
    have h0 := b.toNat_lt
    rw [lnum, Nat.pow_succ]
    omega
theorem B_take (bs : List UInt8) (m i : Nat) : B (bs.take m) i = if i < m then B bs i else 0 := by
  unfold B
  rw [List.getD_eq_getElem?_getD, List.getD_eq_getElem?_getD, List.getElem?_take]
  split <;> rfl
theorem B_over (bs : List UInt8) (i : Nat) (h : bs.length ≤ i) : B bs i = 0 := by
  unfold B
  rw [List.getD_eq_getElem?_getD, List.getElem?_eq_none h]
  rfl
theorem B_append (xs ys : List UInt8) (i : Nat) : B (xs ++ ys) i = if i < xs.length then B xs i else B ys (i - xs.length) := by
  unfold B
  rw [List.getD_eq_getElem?_getD, List.getElem?_append]
  split <;> rw [List.getD_eq_getElem?_getD]
theorem B_tail (b : UInt8) (xs : List UInt8) (i : Nat) : B (b :: xs.tail) (i + 1) = B xs (i + 1) := by
  cases xs with
  | nil => rfl
  | cons x xs => rfl
theorem B_sb (n x i : Nat) (hx : x < 4294967296) (h : i < n) : B (sb n x) i = itL (i + 1) x / 16777216 := by
  have hl := itL_lt (i + 1) x hx
  unfold B sb
  rw [List.getD_eq_getElem?_getD, List.getElem?_map, List.getElem?_range h]
  show (UInt8.ofNat _).toNat = _
  rw [UInt8.toNat_ofNat', Nat.mod_eq_of_lt (by omega)]
/-- Of a try of so many bytes: its number. -/
def tv (bl : Nat) (rnd : List UInt8) : Nat := if bl = 1 then B rnd 0 else num (rnd.take (if bl = 2 then 2 else if bl ≤ 4 then 4 else 8)).reverse
theorem tv_lt (bl : Nat) (rnd : List UInt8) : tv bl rnd < 18446744073709551616 := by
  unfold tv
  split
  · have := B_lt rnd 0; omega
  · refine Nat.lt_of_lt_of_le (num_lt _) ?_
    rw [List.length_reverse, List.length_take, show (18446744073709551616 : Nat) = 256 ^ 8 from rfl]
    refine Nat.pow_le_pow_right (by decide) ?_
    split
    · omega
    · split <;> omega
/-- The state ahead of a try that is taken. -/
def goodS (bl y : Nat) : Prop := lcg y / 16777216 = 1 ∧ (bl = 1 ∨ itL bl y / 16777216 = 0)
def zerosFrom (bl : Nat) (rnd : List UInt8) : Prop := ∀ i, bl ≤ i → B rnd i = 0
def tryB (bl m x : Nat) (rnd : List UInt8) : List UInt8 := UInt8.ofNat (B (sb bl x ++ rnd.drop bl) 0 % 2 ^ m) :: (sb bl x ++ rnd.drop bl).tail
theorem tryB_length (bl m x : Nat) (rnd : List UInt8) (hr : rnd.length = 8) (h1 : 1 ≤ bl) (h8 : bl ≤ 8) : (tryB bl m x rnd).length = 8 := by
  unfold tryB
  rw [List.length_cons, List.length_tail, List.length_append, sb_length, List.length_drop, hr]
  omega
theorem tryB_zeros (bl m x : Nat) (rnd : List UInt8) (h1 : 1 ≤ bl) (hz : zerosFrom bl rnd) : zerosFrom bl (tryB bl m x rnd) := by
  intro i hi
  obtain ⟨j, rfl⟩ : ∃ j, i = j + 1 := ⟨i - 1, by omega⟩
  unfold tryB
  rw [B_tail, B_append, sb_length, if_neg (by omega)]
  have h := hz (bl + (j + 1 - bl)) (by omega)
  unfold B at h ⊢
  rw [List.getD_eq_getElem?_getD] at h ⊢
  rw [List.getElem?_drop]
  exact h
theorem tv_good (bl m x inc L : Nat) (rnd : List UInt8) (hx : x < 4294967296) (h1 : 1 ≤ bl) (h6 : bl ≤ 6) (hm : 1 ≤ m) (hz : zerosFrom bl rnd) (hg : goodS bl x) (hbl : bl = (L + 7) / 8) (hL : 2 ^ (L - 1) ≤ inc) (hi : 2 ≤ inc) : 0 < tv bl (tryB bl m x rnd) ∧ tv bl (tryB bl m x rnd) < inc := by
  have e1 : itL 1 x = lcg x := by rw [itL_next 0 x, itL_zero]
  have b0 : B (sb bl x ++ rnd.drop bl) 0 = 1 := by
    rw [B_append, sb_length, if_pos (by omega), B_sb bl x 0 hx (by omega), Nat.zero_add, e1]
    exact hg.1
  have hp : 2 ≤ 2 ^ m := by
    obtain ⟨k, rfl⟩ : ∃ k, m = k + 1 := ⟨m - 1, by omega⟩
    have := Nat.pow_pos (n := k) (show 0 < 2 by decide)
    rw [Nat.pow_succ]
    omega
  have t0 : tryB bl m x rnd = 1 :: (sb bl x ++ rnd.drop bl).tail := by
    unfold tryB
    rw [b0, Nat.mod_eq_of_lt (by omega)]
    rfl
  have hz2 := tryB_zeros bl m x rnd h1 hz
  unfold tv
  by_cases hb : bl = 1
  · rw [if_pos hb, t0]
    exact ⟨Nat.zero_lt_one, show 1 < inc by omega⟩
  · rw [if_neg hb, num_rev]
    obtain ⟨q, hq, hq2⟩ : ∃ q, (if bl = 2 then 2 else if bl ≤ 4 then 4 else 8) = q + 1 ∧ bl ≤ q + 1 := by
      by_cases h2 : bl = 2
      · exact ⟨1, by rw [if_pos h2], by omega⟩
      · by_cases h4 : bl ≤ 4
        · exact ⟨3, by rw [if_neg h2, if_pos h4], by omega⟩
        · exact ⟨7, by rw [if_neg h2, if_neg h4], by omega⟩
    rw [hq]
    constructor
    · rw [t0, List.take_succ_cons, lnum]
      have : (1 : UInt8).toNat = 1 := rfl
      omega
    · have hlast : B (tryB bl m x rnd) (bl - 1) = 0 := by
        obtain ⟨j, hj⟩ : ∃ j, bl - 1 = j + 1 := ⟨bl - 2, by omega⟩
        rw [hj]
        unfold tryB
        rw [B_tail, B_append, sb_length, if_pos (by omega), B_sb bl x (j + 1) hx (by omega), show j + 1 + 1 = bl by omega]
        rcases hg.2 with h | h
        · exact absurd h hb
        · exact h
      have hall : ∀ i, bl - 1 ≤ i → B ((tryB bl m x rnd).take (q + 1)) i = 0 := by
        intro i hi
        rw [B_take]
        split
        · by_cases he : i = bl - 1
          · rw [he]; exact hlast
          · exact hz2 i (by omega)
        · rfl
      have hlt := lnum_zero (bl - 1) _ hall
      have h256 : 256 ^ (bl - 1) ≤ 2 ^ (L - 1) := by
        rw [show (256 : Nat) = 2 ^ 8 from rfl, ← Nat.pow_mul]
        exact Nat.pow_le_pow_right (by decide) (by omega)
      omega
theorem good_comes (bl x : Nat) (h1 : 1 ≤ bl) (h6 : bl ≤ 6) (hx : x < 4294967296) : ∃ n, goodS bl (itL (bl * n) x) := by
  obtain ⟨n, y, e, g1, g2⟩ := try_comes (bl - 1) (by omega) x hx
  rw [show bl - 1 + 1 = bl by omega] at e g2
  refine ⟨n, ?_⟩
  rw [e]
  exact ⟨g1, by rcases g2 with h | h; exact .inl (by omega); exact .inr h⟩
/-- Cells. -/
theorem mC_13 {gs ms inc hi lo : Nat} {rnd : List UInt8} (h : rnd.length = 8) : (mC gs ms inc hi lo rnd)[13]? = some .nilIface := by
  unfold mC
  rw [show (13 : Nat) = 8 + 1 + 1 + 1 + 1 + 1 from rfl]
  simp only [List.getElem?_cons_succ]
  rw [List.getElem?_append_right (by rw [bvs_length]; omega), bvs_length, h]
  rfl
theorem mC_rnd {gs ms inc hi lo : Nat} {rnd : List UInt8} (i : Nat) (h : i < rnd.length) : (mC gs ms inc hi lo rnd)[5 + i]? = some (.int .u8 ((B rnd i : Nat) : Int)) := by
  unfold mC
  rw [show 5 + i = i + 1 + 1 + 1 + 1 + 1 by omega]
  simp only [List.getElem?_cons_succ]
  rw [List.getElem?_append_left (by rw [bvs_length]; exact h)]
  exact bvs_get rnd i h
theorem mC_splice {gs ms inc hi lo : Nat} {rnd : List UInt8} (bs : List UInt8) (h : bs.length ≤ rnd.length) : splice (mC gs ms inc hi lo rnd) 5 (bvs bs) = mC gs ms inc hi lo (bs ++ rnd.drop bs.length) := by
  unfold splice mC
  rw [show 5 + (bvs bs).length = (bvs bs).length + 1 + 1 + 1 + 1 + 1 by omega]
  simp only [List.take_succ_cons, List.take_zero, List.drop_succ_cons, List.cons_append, List.nil_append]
  rw [bvs_length, List.drop_append_of_le_length (by rw [bvs_length]; exact h), bvs_append, List.append_assoc]
  simp only [bvs, List.map_drop]
theorem mC_set5 {gs ms inc hi lo : Nat} {rnd : List UInt8} (b : Nat) (hb : b < 256) (h : 0 < rnd.length) : (mC gs ms inc hi lo rnd).set 5 (.int .u8 ((b : Nat) : Int)) = mC gs ms inc hi lo (UInt8.ofNat b :: rnd.tail) := by
  cases rnd with
  | nil => cases h
  | cons x xs =>
    unfold mC
    simp only [bvs, List.map_cons, List.cons_append, List.tail_cons, List.set_cons_succ, List.set_cons_zero]
    have e : bv (UInt8.ofNat b) = .int .u8 ((b : Nat) : Int) := by
      unfold bv
      rw [UInt8.toNat_ofNat', Nat.mod_eq_of_lt (by omega)]
    rw [e]
section
variable {P : Program} {a : Act} {w : World} {o : Oper} {x y z : Operand}
theorem do_pickT {v : Value} (ho : o.op = .pick x y z) (hx : a.eval x = .bool true) (hv : a.eval y = v) : (execOp a.eval o).run P w = .ok (.value v) w := do_pick ho hx hv
theorem do_pickF {v : Value} (ho : o.op = .pick x y z) (hx : a.eval x = .bool false) (hv : a.eval z = v) : (execOp a.eval o).run P w = .ok (.value v) w := do_pick ho hx hv
theorem do_arrH {t e n : Nat} {k : IntKind} (ho : o.op = .slice t x none (some y) none) (hu : P.underlying t = some (.array n e)) (hs : (P.info? e).map (·.size) = some 1)
    {g off h : Nat} (hx : a.eval x = .pointer (some ⟨g, off, none⟩)) (hy : a.eval y = .int k (h : Int)) (hh : h ≤ n) : (execOp a.eval o).run P w = .ok (.value (.slice (some ⟨g, off, none⟩) h n)) w := by
  cases hq : P.info? e with
  | none => simp [hq] at hs
  | some inf =>
    have hs1 : inf.size = 1 := by simpa [hq] using hs
    unfold execOp
    simp [ho, hx, hy, Instr.sliceAt, Instr.sureAddr, run_underlying hu, Instr.sliceBounds, Instr.sliceBound, asIntOf, sizeOf, typeInfo, hq, Result.andThen, hh, hs1, Addr.add]
theorem do_arrI {t e n : Nat} {k : IntKind} (ho : o.op = .indexAddr t x y) (hu : P.underlying t = some (.array n e)) (hs : (P.info? e).map (·.size) = some 1)
    {g off i : Nat} (hx : a.eval x = .pointer (some ⟨g, off, none⟩)) (hy : a.eval y = .int k (i : Int)) (hi : i < n) : (execOp a.eval o).run P w = .ok (.value (.pointer (some ⟨g, off + i, none⟩))) w := by
  cases hq : P.info? e with
  | none => simp [hq] at hs
  | some inf =>
    have hs1 : inf.size = 1 := by simpa [hq] using hs
    unfold execOp
    simp [ho, hx, hy, Instr.indexAt, Instr.sureAddr, run_underlying hu, asIntOf, sizeOf, typeInfo, hq, Result.andThen, hi, hs1, Addr.add]
theorem do_neqErr {u : TypeId} (ho : o.op = .binOp .neq 41 x (.const .nilIface) u) (hx : a.eval x = .nilIface) : (execOp a.eval o).run Try.prog w = .ok (.value (.bool false)) w := by
  have hu := Try.underlying41
  have hc : a.eval (.const .nilIface) = .nilIface := rfl
  have hg : (eqGuard BinOp.neq 41 x (.const .nilIface) .nilIface .nilIface) = (pure () : Sem Unit) := by cases x <;> rfl
  unfold execOp; simp only [ho, hx, hc, hg]; go_simp
theorem do_neqRng {u : TypeId} (ho : o.op = .binOp .neq 54 x (.const .nilIface) u) (hx : a.eval x = .nilIface) : (execOp a.eval o).run Try.prog w = .ok (.value (.bool false)) w := by
  have hu := Try.underlying54
  have hc : a.eval (.const .nilIface) = .nilIface := rfl
  have hg : (eqGuard BinOp.neq 54 x (.const .nilIface) .nilIface .nilIface) = (pure () : Sem Unit) := by cases x <;> rfl
  unfold execOp; simp only [ho, hx, hc, hg]; go_simp
theorem do_eqlF {t u : TypeId} {k : IntKind} {m n : Nat} (ho : o.op = .binOp .eql t x y u) (hu : P.underlying t = some (.int k)) (hx : a.eval x = .int k (m : Int)) (hy : a.eval y = .int k (n : Int)) (h : ¬ m = n) : (execOp a.eval o).run P w = .ok (.value (.bool false)) w := by rw [← decide_eq_false h]; exact do_eql ho hu hx hy
theorem do_eqlT {t u : TypeId} {k : IntKind} {m n : Nat} (ho : o.op = .binOp .eql t x y u) (hu : P.underlying t = some (.int k)) (hx : a.eval x = .int k (m : Int)) (hy : a.eval y = .int k (n : Int)) (h : m = n) : (execOp a.eval o).run P w = .ok (.value (.bool true)) w := by rw [← decide_eq_true h]; exact do_eql ho hu hx hy
theorem do_geqF {t u : TypeId} {k : IntKind} {m n : Nat} (ho : o.op = .binOp .geq t x y u) (hu : P.underlying t = some (.int k)) (hx : a.eval x = .int k (m : Int)) (hy : a.eval y = .int k (n : Int)) (h : ¬ n ≤ m) : (execOp a.eval o).run P w = .ok (.value (.bool false)) w := by rw [← decide_eq_false h]; exact do_geq ho hu hx hy
theorem do_geqT {t u : TypeId} {k : IntKind} {m n : Nat} (ho : o.op = .binOp .geq t x y u) (hu : P.underlying t = some (.int k)) (hx : a.eval x = .int k (m : Int)) (hy : a.eval y = .int k (n : Int)) (h : n ≤ m) : (execOp a.eval o).run P w = .ok (.value (.bool true)) w := by rw [← decide_eq_true h]; exact do_geq ho hu hx hy
theorem do_quo8 {t u : TypeId} (ho : o.op = .binOp .quo t x (.const (.int .u64 8)) u) (hu : P.underlying t = some (.int .u64)) {n : Nat} (hx : a.eval x = .int .u64 (n : Int)) (hn : n < 18446744073709551616) : (execOp a.eval o).run P w = .ok (.value (.int .u64 ((n / 8 : Nat) : Int))) w := by
  have hc : a.eval (.const (.int .u64 8)) = .int .u64 8 := rfl
  have e : IntKind.u64.wrap ((n : Int) / 8) = (n : Int) / 8 := by rw [IntKind.wrap_u64]; omega
  unfold execOp; simp only [ho, hx, hc]; go_simp
theorem do_rem8 {t u : TypeId} (ho : o.op = .binOp .rem t x (.const (.int .i64 8)) u) (hu : P.underlying t = some (.int .i64)) {n : Nat} (hx : a.eval x = .int .i64 (n : Int)) : (execOp a.eval o).run P w = .ok (.value (.int .i64 ((n % 8 : Nat) : Int))) w := by
  have hc : a.eval (.const (.int .i64 8)) = .int .i64 8 := rfl
  have e : (n : Int).tmod 8 = (n : Int) % 8 := Int.tmod_eq_emod_of_nonneg (Int.natCast_nonneg n)
  unfold execOp; simp only [ho, hx, hc]; go_simp
theorem do_shl1 {t u : TypeId} (ho : o.op = .binOp .shl t (.const (.int .i64 1)) y u) (hu : P.underlying t = some (.int .i64)) (hu2 : P.underlying u = some (.int .u64)) {m : Nat} (hy : a.eval y = .int .u64 (m : Int)) (h8 : m ≤ 8) : (execOp a.eval o).run P w = .ok (.value (.int .i64 ((2 ^ m : Nat) : Int))) w := by
  have hc : a.eval (.const (.int .i64 1)) = .int .i64 1 := rfl
  have : m = 0 ∨ m = 1 ∨ m = 2 ∨ m = 3 ∨ m = 4 ∨ m = 5 ∨ m = 6 ∨ m = 7 ∨ m = 8 := by omega
  rcases this with rfl | rfl | rfl | rfl | rfl | rfl | rfl | rfl | rfl <;> (unfold execOp; simp only [ho, hy, hc]; go_simp; rw [IntKind.wrap_i64]; rfl)
theorem do_mask {t u : TypeId} (ho : o.op = .binOp .and t x y u) (hu : P.underlying t = some (.int .u8)) {b m : Nat} (hx : a.eval x = .int .u8 (b : Int)) (hy : a.eval y = .int .u8 ((2 ^ m - 1 : Nat) : Int)) (hb : b < 256) (hm : 2 ^ m ≤ 256) : (execOp a.eval o).run P w = .ok (.value (.int .u8 ((b % 2 ^ m : Nat) : Int))) w := by
  have e := u8_and_nat b (2 ^ m - 1) hb (by omega)
  rw [Nat.and_two_pow_sub_one_eq_mod] at e
  generalize hq : 2 ^ m - 1 = q at *
  unfold execOp; simp only [ho, hx, hy]; go_simp
end
section
variable {P : Program} {Q : Exit → Act → World → Prop} {l : List Oper} {n : Nat} {L : List (Nat × Value)} {a : Act} {w : World}
/-- An operation behind a guard that lets it through. -/
theorem list_on {o : Oper} {rest : List Oper} {d k t : Nat} {pos b : Bool} {c : Op} {g : Option (Nat × Bool)} {v : Value} (h2 : o.dst = some d) (h3 : o.guard = some (k, pos)) (hl : (l[k]?).map coreO = some (c, some t, g)) (hv : a.eval (.tmp t) = .bool b) (hb : (b == pos) = true)
    (hk : Keeps n L a) (hd : d < n) (hf : ∀ x ∈ L, d ≠ x.1) (hy : (execOp a.eval o).run P w = .ok (.value v) w) (h : ∀ a', Keeps n ((d, v) :: L) a' → wpList P l.toArray Q rest a' w) : wpList P l.toArray Q (o :: rest) a w := by
  refine wp_val (by rw [wanted_by h3 (yield_bool hl hv)]; exact hb) hy ?_
  rw [h2]
  exact h _ (hk.push hd hf)
/-- An operation behind a guard that does not. -/
theorem list_off {o : Oper} {rest : List Oper} {d k t : Nat} {pos b : Bool} {c : Op} {g : Option (Nat × Bool)} (h2 : o.dst = some d) (h3 : o.guard = some (k, pos)) (hl : (l[k]?).map coreO = some (c, some t, g)) (hv : a.eval (.tmp t) = .bool b) (hb : (b == pos) = false)
    (hk : Keeps n L a) (hd : d < n) (hf : ∀ x ∈ L, d ≠ x.1) (h : ∀ a', Keeps n ((d, undef) :: L) a' → wpList P l.toArray Q rest a' w) : wpList P l.toArray Q (o :: rest) a w := by
  refine wp_off (by rw [wanted_by h3 (yield_bool hl hv)]; exact hb) ?_
  rw [h2]
  exact h _ (hk.push hd hf)
end
end Go.Proofs.Ytcojcohipmoopaa
