/- The text of a KSUID: the package's digits of 62. -/
import Derived.Test.YtjmmkjdlkecmhaaWrite
import Derived.Test.YtjmmkjdlkecmhaaTree
import Derived.Test.YtjmmkjdlkecmhaaMore
import Derived.Test.YtjmmkjdlkecmhaaKs
import Derived.Deep.CutRange
import Derived.Lib.BufferWrite
namespace Go.Proofs.Ytjmmkjdlkecmhaa
open Go.RowKit

section
variable {P : Program} {ops : Array Oper} {rest : List Oper} {o : Oper} {a : Act} {w : World} {Q : Exit → Act → World → Prop} {B0 : Nat} {w0 : World} {S : World → Prop}
/-- One value appended where there is room: in place. -/
theorem wp_append_room {w1 : World} (hb : Below B0 w0 w1) (hgd : o.guard = none) {s x : Operand} {t : TypeId}
    (ho : o.op = .call { callee := .builtin .append, args := #[s, x], argTypes := #[t, t] }) {e : Nat} (ht : P.underlying t = some (.slice e)) (hsz : (P.info? e).map (·.size) = some 1)
    {val : Value} {e' : TypeId} (hw : w = w1.alloc (.cells #[val] e')) (hx : a.eval x = .slice (some ⟨w1.heap.size, 0, none⟩) 1 1) (hval : val.oneCell' = true) {g n cap : Nat} (hs : a.eval s = .slice (some ⟨g, 0, none⟩) n cap)
    {cs : List Value} {t' : TypeId} (hg : Blk w1 g cs t') (hcap : n + 1 ≤ cap) (hfit : n < cs.length) (hB : B0 ≤ g) (hB' : B0 ≤ w1.heap.size)
    (h : ∀ w', Blk w' g (cs.set n val) t' → w1.grownBy w' (some g) → Below B0 w0 w' → wpList P ops Q rest (a.put o.dst (.slice (some ⟨g, 0, none⟩) (n + 1) cap)) w') : wpList P ops Q (o :: rest) a w := by
  cases hq : P.info? e with
  | none => simp [hq] at hsz
  | some i =>
    have hs1 : i.size = 1 := by simpa [hq] using hsz
    subst hw
    refine wpList_plain hgd fun K hK => ?_
    have hgA : Blk (w1.alloc (.cells #[val] e')) g cs t' := hg.kept (below_grown (World.grownBy_alloc w1 _ none))
    have hnews : ∀ j u, ([val] : List Value)[j]? = some u → (w1.alloc (.cells #[val] e')).cell? ((⟨w1.heap.size, 0, none⟩ : Addr).add j) = some u := by
      intro j u hj
      match j, hj with
      | 0, hj =>
        simp at hj
        subst hj
        rw [Addr.add_mid, (Blk.new w1 [val] e').cell]
        rfl
    have hfc := run_firstCells_some (P := P) (w1.alloc (.cells #[val] e')) i.size 1 ⟨w1.heap.size, 0, none⟩ 1 1 [val] (by simp [hs1]) hnews
    have hst := run_storeCells_at (P := P) g (n * i.size) t' [val] 0 cs.toArray _ hgA (by simp [hs1]; omega) (by simpa using hval)
    have e : (cs.toArray.toList.take (n * i.size + 0) ++ [val] ++ cs.toArray.toList.drop (n * i.size + 0 + [val].length)).toArray = (cs.set n val).toArray := by
      simp [hs1, List.set_eq_take_append_cons_drop, hfit]
    rw [e] at hst
    have hrun : (Builtin.append_ #[t, t] o.type #[.slice (some ⟨g, 0, none⟩) n cap, .slice (some ⟨w1.heap.size, 0, none⟩) 1 1]).run P (w1.alloc (.cells #[val] e')) = .ok (.slice (some ⟨g, 0, none⟩) (n + 1) cap) ((w1.alloc (.cells #[val] e')).setRow g (cs.set n val).toArray) := by
      simp [Builtin.append_, run_underlying ht, sizeOf, typeInfo, hq, Builtin.lenOf, hcap, hfc, Addr.add_lit, hst]
    unfold Oper.wp
    simp [execOp, ho, resolve, invoke, builtin, hs, hx, hrun, Result.andThen]
    refine hK _ _ (h _ (setRow_heap _ g _ _ t' _ hgA) ⟨rfl, rfl, rfl, by simp, fun k hlt hk => ?_⟩ (below_put (hb.alloc hB' _) hB _))
    rw [setRow_other _ g k _ (by simpa using hk)]
    exact (World.grownBy_alloc w1 (.cells #[val] e') none).block k hlt (by simp)
end

/-- Digit j of V with m digits of 2^32. -/
def dg (m V j : Nat) : Nat := V / 4294967296 ^ (m - 1 - j) % 4294967296
theorem dg_lt (m V j : Nat) : dg m V j < 4294967296 := Nat.mod_lt _ (by decide)
/-- The first k + 1 digits. -/
theorem dg_pre (m V k : Nat) (h : k < m) : V / 4294967296 ^ (m - (k + 1)) = V / 4294967296 ^ (m - k) * 4294967296 + dg m V k := by
  have e : 4294967296 ^ (m - k) = 4294967296 ^ (m - (k + 1)) * 4294967296 := by rw [← Nat.pow_succ, show (m - (k + 1)).succ = m - k by omega]
  rw [dg, e, ← Nat.div_div_eq_div_mul, show m - 1 - k = m - (k + 1) by omega]
  generalize V / 4294967296 ^ (m - (k + 1)) = A
  omega
/-- One more digit of a quotient. -/
theorem quo_step (D R r c : Nat) (hr : r < D) : ((D * R + r) * 4294967296 + c) / D = R * 4294967296 + (c + r * 4294967296) / D := by
  have : (D * R + r) * 4294967296 + c = D * (R * 4294967296) + (c + r * 4294967296) := by
    rw [Nat.add_mul, Nat.mul_assoc]; omega
  rw [this, Nat.mul_add_div (by omega)]
theorem rem_step (D R r c : Nat) : ((D * R + r) * 4294967296 + c) % D = (c + r * 4294967296) % D := by
  have : (D * R + r) * 4294967296 + c = D * (R * 4294967296) + (c + r * 4294967296) := by
    rw [Nat.add_mul, Nat.mul_assoc]; omega
  rw [this, Nat.mul_add_mod]
theorem dg_more (q R d j : Nat) (hd : d < 4294967296) (hj : j < q) : dg (q + 1) (R * 4294967296 + d) j = dg q R j := by
  unfold dg
  rw [show q + 1 - 1 - j = (q - 1 - j) + 1 by omega, Nat.pow_succ, Nat.mul_comm (4294967296 ^ _) 4294967296, ← Nat.div_div_eq_div_mul]
  rw [show (R * 4294967296 + d) / 4294967296 = R by omega]
theorem dg_last (q R d : Nat) (hd : d < 4294967296) : dg (q + 1) (R * 4294967296 + d) q = d := by
  unfold dg
  rw [show q + 1 - 1 - q = 0 by omega, Nat.pow_zero, Nat.div_one]
  omega
theorem num_append (a b : List UInt8) : num (a ++ b) = num a * 256 ^ b.length + num b := by
  have key : ∀ (b : List UInt8) (n : Nat), b.foldl (fun n b => n * 256 + b.toNat) n = n * 256 ^ b.length + num b := by
    intro b
    induction b with
    | nil => intro n; simp [num]
    | cons x b ih =>
      intro n
      have e2 : num (x :: b) = x.toNat * 256 ^ b.length + num b := by
        show List.foldl _ 0 (x :: b) = _
        rw [List.foldl_cons, ih, Nat.zero_mul, Nat.zero_add]
      rw [List.foldl_cons, ih, e2, List.length_cons, Nat.pow_succ, Nat.add_mul, Nat.mul_assoc, Nat.mul_comm 256 (256 ^ b.length), Nat.add_assoc]
  rw [num, List.foldl_append, key]
  rfl
theorem word_dg (x : List UInt8) (hx : x.length = 20) (j : Nat) (hj : j < 5) : num ((x.drop (4 * j)).take 4) = dg 5 (num x) j := by
  have e : x = x.take (4 * j) ++ ((x.drop (4 * j)).take 4 ++ (x.drop (4 * j)).drop 4) := by rw [List.take_append_drop 4, List.take_append_drop]
  have l4 : ((x.drop (4 * j)).take 4).length = 4 := by rw [List.length_take, List.length_drop, hx]; omega
  have lr : ((x.drop (4 * j)).drop 4).length = 4 * (4 - j) := by rw [List.length_drop, List.length_drop, hx]; omega
  have h1 := num_lt ((x.drop (4 * j)).take 4)
  have h2 := num_lt ((x.drop (4 * j)).drop 4)
  have h3 : num x = (num (x.take (4 * j)) * 256 ^ 4 + num ((x.drop (4 * j)).take 4)) * 256 ^ ((x.drop (4 * j)).drop 4).length + num ((x.drop (4 * j)).drop 4) := by
    conv => lhs; rw [e, ← List.append_assoc, num_append, num_append, l4]
  rw [l4] at h1
  have h4 : (4294967296 : Nat) ^ (5 - 1 - j) = 256 ^ ((x.drop (4 * j)).drop 4).length := by
    rw [lr, show (4294967296 : Nat) = 256 ^ 4 from rfl, ← Nat.pow_mul, show 5 - 1 - j = 4 - j by omega]
  rw [dg, h4, h3, Nat.mul_comm _ (256 ^ ((x.drop (4 * j)).drop 4).length), Nat.mul_add_div (Nat.lt_of_le_of_lt (Nat.zero_le _) h2), Nat.div_eq_of_lt h2, Nat.add_zero]
  generalize num ((x.drop (4 * j)).take 4) = m at *
  omega
theorem splice_len {α : Type} (L l : List α) (k : Nat) (h : k + l.length ≤ L.length) : (splice L k l).length = L.length := by simp [splice]; omega
theorem splice_back {α : Type} (L l : List α) (off n : Nat) (v : α) (hv : l[n]? = some v) (hl : off + l.length ≤ L.length) : (splice L (off + (n + 1)) (l.drop (n + 1))).set (off + n) v = splice L (off + n) (l.drop n) := by
  have hn : n < l.length := (List.getElem?_eq_some_iff.1 hv).1
  apply List.ext_getElem?
  intro j
  simp only [splice, List.getElem?_set, List.getElem?_append, List.length_take, List.length_append, List.length_drop, List.getElem?_take, List.getElem?_drop]
  by_cases h1 : j < off + n
  · simp [h1, show min (off + n) L.length = off + n by omega, show min (off + (n + 1)) L.length = off + (n + 1) by omega, show off + n ≠ j by omega, show j < off + (n + 1) by omega]
  · by_cases h2 : j = off + n
    · subst h2
      simp [show min (off + n) L.length = off + n by omega, show min (off + (n + 1)) L.length = off + (n + 1) by omega, hv]
      rw [if_pos (by omega), if_pos (by omega)]
    · by_cases h3 : j < off + l.length
      · simp [h1, show min (off + n) L.length = off + n by omega, show min (off + (n + 1)) L.length = off + (n + 1) by omega, show off + n ≠ j by omega, show ¬ j < off + (n + 1) by omega, show j - (off + (n + 1)) < l.length - (n + 1) by omega, show j - (off + n) < l.length - n by omega, show n + 1 + (j - (off + (n + 1))) = n + (j - (off + n)) by omega]
      · simp [h1, show min (off + n) L.length = off + n by omega, show min (off + (n + 1)) L.length = off + (n + 1) by omega, show off + n ≠ j by omega, show ¬ j < off + (n + 1) by omega, show ¬ j - (off + (n + 1)) < l.length - (n + 1) by omega, show ¬ j - (off + n) < l.length - n by omega]
        congr 1; omega
def d62 : List UInt8 := [48, 49, 50, 51, 52, 53, 54, 55, 56, 57, 65, 66, 67, 68, 69, 70, 71, 72, 73, 74, 75, 76, 77, 78, 79, 80, 81, 82, 83, 84, 85, 86, 87, 88, 89, 90, 97, 98, 99, 100, 101, 102, 103, 104, 105, 106, 107, 108, 109, 110, 111, 112, 113, 114, 115, 116, 117, 118, 119, 120, 121, 122]

/-- Four bytes inside. -/
theorem Rd.part {w : World} {a : Option Addr} {bs : List UInt8} (h : Rd w a bs) (k m : Nat) (hm : k + m ≤ bs.length) (h0 : 0 < m) : Rd w (a.map (·.add k)) ((bs.drop k).take m) := by
  refine ⟨by rw [List.length_take, List.length_drop]; have := h.1; omega, ?_⟩
  rcases h.2 with rfl | ⟨b, off, rfl, hc⟩
  · simp at hm; omega
  · refine .inr ⟨b, off + k, by simp [Addr.add_lit], fun i hi => ?_⟩
    rw [List.length_take, List.length_drop] at hi
    rw [Nat.add_assoc, hc (k + i) (by omega)]
    simp [B, show i < m by omega]

/-- The five words of twenty bytes. -/
def words (x : List UInt8) : List Value := (List.range 5).map fun j => .int .u32 (num ((x.drop (4 * j)).take 4))

theorem step_cells {wi w4 : World} {gb gq q k m : Nat} {cq : List Value} {v : Value} {t : TypeId} {F : Nat → Value} (hcq : Blk wi gq cq t) (b4 : Blk w4 gq (cq.set q v) t) (g4 : wi.grownBy w4 (some gq)) (hqk : q ≤ k)
    (h : ∀ j, k ≤ j → j < m → wi.cell? ⟨gb, j, none⟩ = some (F j)) : ∀ j, k + 1 ≤ j → j < m → w4.cell? ⟨gb, j, none⟩ = some (F j) := by
  intro j h1 h2
  have hc := h j (by omega) h2
  by_cases e : gb = gq
  · subst e
    rw [b4.cell, List.getElem?_set_ne (by omega), ← hcq.cell, hc]
  · exact g4.cell hc (by intro e'; exact e (Option.some.inj e'))
theorem step_digits {q R d : Nat} {cq : List Value} (h : ∀ j, j < q → cq[j]? = some (.int .u32 (dg q R j))) (hl : q < cq.length) (hd : d < 4294967296) : ∀ j, j < q + 1 → (cq.set q (.int .u32 (d : Int)))[j]? = some (.int .u32 (dg (q + 1) (R * 4294967296 + d) j)) := by
  intro j hj
  by_cases e : j = q
  · subst e
    rw [List.getElem?_set_self hl, dg_last _ _ _ hd]
  · rw [List.getElem?_set_ne (fun h => e h.symm), h j (by omega), dg_more _ _ _ _ hd (by omega)]
theorem step_lt {q R d : Nat} (h : R < 4294967296 ^ q) (hd : d < 4294967296) : R * 4294967296 + d < 4294967296 ^ (q + 1) := by
  rw [Nat.pow_succ]
  have : (R + 1) * 4294967296 ≤ 4294967296 ^ q * 4294967296 := Nat.mul_le_mul_right _ h
  omega
theorem step_ge {q R d : Nat} (h : q = 0 ∨ 4294967296 ^ (q - 1) ≤ R) (h0 : ¬ (q = 0 ∧ d = 0)) : 4294967296 ^ (q + 1 - 1) ≤ R * 4294967296 + d := by
  by_cases e : q = 0
  · subst e
    clear h
    rw [show 0 + 1 - 1 = 0 from rfl, Nat.pow_zero]
    omega
  · rcases h with h | h
    · exact absurd h e
    · rw [show q + 1 - 1 = (q - 1) + 1 by omega, Nat.pow_succ]
      exact Nat.le_trans (Nat.mul_le_mul_right 4294967296 h) (Nat.le_add_right _ _)
theorem below_zero (w : World) : Below 0 w w := ⟨rfl, rfl, rfl, Nat.le_refl _, fun _ _ => rfl⟩
theorem d62_at (r : Nat) (h : r < 62) : ((⟨d62.toArray⟩ : ByteArray)[r]'(show r < (⟨d62.toArray⟩ : ByteArray).size from h)) = d62.getD r 0 := by
  have h1 : r < d62.length := h
  have h2 : d62.toArray[r]'(by simpa using h1) = d62.getD r 0 := by simp [h1]
  exact h2
/-- copy of the beginning of a string into a block. -/
theorem wp_copy_str {P : Program} {ops : Array Oper} {rest : List Oper} {o : Oper} {a : Act} {w : World} {Q : Exit → Act → World → Prop} (hgd : o.guard = none) {d s : Operand} {dT sT : TypeId}
    (ho : o.op = .call { callee := .builtin .copy, args := #[d, s], argTypes := #[dT, sT] }) {elem : TypeId} (hu : P.underlying dT = some (.slice elem)) (hsz : (P.info? elem).map (·.size) = some 1)
    {g off dLen dCap : Nat} (hd : a.eval d = .slice (some ⟨g, off, none⟩) dLen dCap) {sl : List UInt8} (hs : a.eval s = .string ⟨sl.toArray⟩) {cs : List Value} {t : TypeId} (hg : Blk w g cs t) (hdl : dLen ≤ sl.length) (hfit : off + dLen ≤ cs.length)
    (h : ∀ w', Blk w' g (splice cs off (bvs (sl.take dLen))) t → w.grownBy w' (some g) → wpList P ops Q rest (a.put o.dst (.int .i64 dLen)) w') : wpList P ops Q (o :: rest) a w := by
  refine wpList_plain hgd fun K hK => ?_
  have hlen : (bvs (sl.take dLen)).length = dLen := by rw [bvs_length, List.length_take]; omega
  have hst := run_storeCells_at P g off t (bvs (sl.take dLen)) 0 cs.toArray w hg (by rw [hlen]; simpa using hfit) (bvs_one _)
  have e : (cs.toArray.toList.take (off + 0) ++ bvs (sl.take dLen) ++ cs.toArray.toList.drop (off + 0 + (bvs (sl.take dLen)).length)).toArray = (splice cs off (bvs (sl.take dLen))).toArray := by simp [splice]
  rw [e] at hst
  have hmin : Nat.min (⟨sl.toArray⟩ : ByteArray).size dLen = dLen := Nat.min_eq_right hdl
  have htk : List.take dLen (List.map (fun b : UInt8 => Value.int IntKind.u8 (b.toNat : Int)) sl) = bvs (sl.take dLen) := by
    rw [← List.map_take]; rfl
  cases hq : P.info? elem with
  | none => simp [hq] at hsz
  | some i =>
    have hrun : (Builtin.copy_ #[dT, sT] o.type #[.slice (some ⟨g, off, none⟩) dLen dCap, .string ⟨sl.toArray⟩]).run P w = .ok (.int .i64 dLen) (w.setRow g (splice cs off (bvs (sl.take dLen))).toArray) := by
      simp [Builtin.copy_, run_underlying hu, Builtin.lenOf, Builtin.firstCells, sizeOf, typeInfo, hq, hmin]
      rw [htk, hst]
      simp [Result.andThen, goInt]
    unfold Oper.wp
    simp [execOp, ho, resolve, invoke, builtin, hd, hs, hrun, Result.andThen]
    exact hK _ _ (h _ (setRow_heap w g _ _ t _ hg) ⟨rfl, rfl, rfl, by simp, fun k _ hk => setRow_other w g k _ (by simpa using hk)⟩)
theorem splice_fill {α : Type} (L l : List α) (off n : Nat) (hl : off + l.length ≤ L.length) (hn : n ≤ l.length) : splice (splice L (off + n) (l.drop n)) off (l.take n) = splice L off l := by
  have lA : (L.take (off + n)).length = off + n := by rw [List.length_take]; omega
  have lt : (l.take n).length = n := by rw [List.length_take]; omega
  have hX : splice L (off + n) (l.drop n) = L.take (off + n) ++ (l.drop n ++ L.drop (off + l.length)) := by
    rw [splice, List.length_drop, show off + n + (l.length - n) = off + l.length by omega]
  have h1 : (L.take (off + n) ++ (l.drop n ++ L.drop (off + l.length))).take off = L.take off := by
    rw [List.take_append_of_le_length (by omega), List.take_take, Nat.min_eq_left (by omega)]
  have h2 : (L.take (off + n) ++ (l.drop n ++ L.drop (off + l.length))).drop (off + n) = l.drop n ++ L.drop (off + l.length) := List.drop_left' lA
  rw [hX]
  show (L.take (off + n) ++ (l.drop n ++ L.drop (off + l.length))).take off ++ (l.take n ++ (L.take (off + n) ++ (l.drop n ++ L.drop (off + l.length))).drop (off + (l.take n).length)) = _
  rw [lt, h1, h2, ← List.append_assoc (l.take n), List.take_append_drop, splice]
theorem zeros62 (N t n : Nat) (hn : n = 27 - t) (h : N / 62 ^ t = 0) : (bvs (writ d62 27 N)).take n = bvs ((List.replicate 27 (48 : UInt8)).take n) := by
  have e : (writ d62 27 N).take n = (List.replicate 27 (48 : UInt8)).take n := by
    apply List.ext_getElem?
    intro i
    rw [List.getElem?_take, List.getElem?_take]
    by_cases hi : i < n
    · rw [if_pos hi, if_pos hi, writ, List.getElem?_map, List.getElem?_range (by omega), List.getElem?_replicate, if_pos (by omega), Option.map_some]
      have e2 : N / d62.length ^ (27 - 1 - i) = 0 := by
        show N / 62 ^ (27 - 1 - i) = 0
        rw [show 27 - 1 - i = t + (26 - i - t) by omega, Nat.pow_add, ← Nat.div_div_eq_div_mul, h, Nat.zero_div]
      rw [e2]
      rfl
    · rw [if_neg hi, if_neg hi]
  rw [bvs, ← List.map_take, e]
  rfl
end Go.Proofs.Ytjmmkjdlkecmhaa
