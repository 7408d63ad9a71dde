/- The text of a KSUID: the package's digits of 62. -/
import Derived.Test.YtbacbgicfomkbaaWrite
import Derived.Test.YtbacbgicfomkbaaTree
import Derived.Test.YtbacbgicfomkbaaMore
import Derived.Test.YtbacbgicfomkbaaKs
import Derived.Deep.CutRange
import Derived.Lib.BufferWrite
namespace Go.Proofs.Ytbacbgicfomkbaa
open Go.RowKit

section
variable {P : Program} {ops : Array Oper} {rest : List Oper} {o : Oper} {a : Act} {w : World} {Q : Exit → Act → World → Prop} {B0 : Nat} {w0 : World} {S : World → Prop}
/-- One value appended where there is room: in place. -/
theorem wp_append_room {w1 : World} (hb : Below B0 w0 w1) (hgd : o.guard = none) {s x : Operand} {t : TypeId}
    (ho : o.op = .call { callee := .builtin .append, args := #[s, x], argTypes := #[t, t] }) {e : Nat} (ht : P.underlying t = some (.slice e)) (hsz : (P.info? e).map (·.size) = some 1)
    {val : Value} {e' : TypeId} (hw : w = w1.alloc (.cells #[val] e')) (hx : a.eval x = .slice (some ⟨w1.heap.size, 0, none⟩) 1 1) (hval : val.oneCell' = true) {g n cap : Nat} (hs : a.eval s = .slice (some ⟨g, 0, none⟩) n cap)
    {cs : List Value} {t' : TypeId} (hg : Blk w1 g cs t') (hcap : n + 1 ≤ cap) (hfit : n < cs.length) (hB : B0 ≤ g) (hB' : B0 ≤ w1.heap.size)
    (h : ∀ w', Blk w' g (cs.set n val) t' → w1.grownBy w' (some g) → Below B0 w0 w' → wpList P ops Q rest (a.put o.dst (.slice (some ⟨g, 0, none⟩) (n + 1) cap)) w') : wpList P ops Q (o :: rest) a w := by
  cases hq : P.info? e with
  | none => simp [hq] at hsz
  | some i =>
    have hs1 : i.size = 1 := by simpa [hq] using hsz
    subst hw
    refine wpList_plain hgd fun K hK => ?_
    have hgA : Blk (w1.alloc (.cells #[val] e')) g cs t' := hg.kept (below_grown (World.grownBy_alloc w1 _ none))
    have hnews : ∀ j u, ([val] : List Value)[j]? = some u → (w1.alloc (.cells #[val] e')).cell? ((⟨w1.heap.size, 0, none⟩ : Addr).add j) = some u := by
      intro j u hj
      match j, hj with
      | 0, hj =>
        simp at hj
        subst hj
        rw [Addr.add_mid, (Blk.new w1 [val] e').cell]
        rfl
    have hfc := run_firstCells_some (P := P) (w1.alloc (.cells #[val] e')) i.size 1 ⟨w1.heap.size, 0, none⟩ 1 1 [val] (by simp [hs1]) hnews
    have hst := run_storeCells_at (P := P) g (n * i.size) t' [val] 0 cs.toArray _ hgA (by simp [hs1]; omega) (by simpa using hval)
    have e : (cs.toArray.toList.take (n * i.size + 0) ++ [val] ++ cs.toArray.toList.drop (n * i.size + 0 + [val].length)).toArray = (cs.set n val).toArray := by
      simp [hs1, List.set_eq_take_append_cons_drop, hfit]
    rw [e] at hst
    have hrun : (Builtin.append_ #[t, t] o.type #[.slice (some ⟨g, 0, none⟩) n cap, .slice (some ⟨w1.heap.size, 0, none⟩) 1 1]).run P (w1.alloc (.cells #[val] e')) = .ok (.slice (some ⟨g, 0, none⟩) (n + 1) cap) ((w1.alloc (.cells #[val] e')).setRow g (cs.set n val).toArray) := by
      simp [Builtin.append_, run_underlying ht, sizeOf, typeInfo, hq, Builtin.lenOf, hcap, hfc, Addr.add_lit, hst]
    unfold Oper.wp
    simp [execOp, ho, resolve, invoke, builtin, hs, hx, hrun, Result.andThen]
    refine hK _ _ (h _ (setRow_heap _ g _ _ t' _ hgA) ⟨rfl, rfl, rfl, by simp, fun k hlt hk => ?_⟩ (below_put (hb.alloc hB' _) hB _))
    rw [setRow_other _ g k _ (by simpa using hk)]
    exact (World.grownBy_alloc w1 (.cells #[val] e') none).block k hlt (by simp)
end

/-- Digit j of V with m digits of 2^32. -/
def dg (m V j : Nat) : Nat := V / 4294967296 ^ (m - 1 - j) % 4294967296
theorem dg_lt (m V j : Nat) : dg m V j < 4294967296 := Nat.mod_lt _ (by decide)
/-- The first k + 1 digits. -/
theorem dg_pre (m V k : Nat) (h : k < m) : V / 4294967296 ^ (m - (k + 1)) = V / 4294967296 ^ (m - k) * 4294967296 + dg m V k := by
  have e : 4294967296 ^ (m - k) = 4294967296 ^ (m - (k + 1)) * 4294967296 := by rw [← Nat.pow_succ, show (m - (k + 1)).succ = m - k by omega]
  rw [dg, e, ← Nat.div_div_eq_div_mul, show m - 1 - k = m - (k + 1) by omega]
  generalize V / 4294967296 ^ (m - (k + 1)) = A
  omega
/-- One more digit of a quotient. -/
theorem quo_step (D R r c : Nat) (hr : r < D) : ((D * R + r) * 4294967296 + c) / D = R * 4294967296 + (c + r * 4294967296) / D := by
  have : (D * R + r) * 4294967296 + c = D * (R * 4294967296) + (c + r * 4294967296) := by
    rw [Nat.add_mul, Nat.mul_assoc]; omega
  rw [this, Nat.mul_add_div (by omega)]
theorem rem_step (D R r c : Nat) : ((D * R + r) * 4294967296 + c) % D = (c + r * 4294967296) % D := by
  have : (D * R + r) * 4294967296 + c = D * (R * 4294967296) + (c + r * 4294967296) := by
    rw [Nat.add_mul, Nat.mul_assoc]; omega
  rw [this, Nat.mul_add_mod]
theorem dg_more (q R d j : Nat) (hd : d < 4294967296) (hj : j < q) : dg (q + 1) (R * 4294967296 + d) j = dg q R j := by
  unfold dg
  rw [show q + 1 - 1 - j = (q - 1 - j) + 1 by omega, Nat.pow_succ, Nat.mul_comm (4294967296 ^ _) 4294967296, ← Nat.div_div_eq_div_mul]
  rw [show (R * 4294967296 + d) / 4294967296 = R by omega]
theorem dg_last (q R d : Nat) (hd : d < 4294967296) : dg (q + 1) (R * 4294967296 + d) q = d := by
  unfold dg
  rw [show q + 1 - 1 - q = 0 by omega, Nat.pow_zero, Nat.div_one]
  omega
theorem num_append (a b : List UInt8) : num (a ++ b) = num a * 256 ^ b.length + num b := by
  have key : ∀ (b : List UInt8) (n : Nat), b.foldl (fun n b => n * 256 + b.toNat) n = n * 256 ^ b.length + num b := by
    intro b
    induction b with
    | nil => intro n; simp [num]
    | cons x b ih =>
      intro n
      have e2 : num (x :: b) = x.toNat * 256 ^ b.length + num b := by
        show List.foldl _ 0 (x :: b) = _
        rw [List.foldl_cons, ih, Nat.zero_mul, Nat.zero_add]
      rw [List.foldl_cons, ih, e2, List.length_cons, Nat.pow_succ, Nat.add_mul, Nat.mul_assoc, Nat.mul_comm 256 (256 ^ b.length), Nat.add_assoc]
  rw [num, List.foldl_append, key]
  rfl
theorem word_dg (x : List UInt8) (hx : x.length = 20) (j : Nat) (hj : j < 5) : num ((x.drop (4 * j)).take 4) = dg 5 (num x) j := by
  have e : x = x.take (4 * j) ++ ((x.drop (4 * j)).take 4 ++ (x.drop (4 * j)).drop 4) := by rw [List.take_append_drop 4, List.take_append_drop]
  have l4 : ((x.drop (4 * j)).take 4).length = 4 := by rw [List.length_take, List.length_drop, hx]; omega
  have lr : ((x.drop (4 * j)).drop 4).length = 4 * (4 - j) := by rw [List.length_drop, List.length_drop, hx]; omega
  have h1 := num_lt ((x.drop (4 * j)).take 4)
  have h2 := num_lt ((x.drop (4 * j)).drop 4)
  have h3 : num x = (num (x.take (4 * j)) * 256 ^ 4 + num ((x.drop (4 * j)).take 4)) * 256 ^ ((x.drop (4 * j)).drop 4).length + num ((x.drop (4 * j)).drop 4) := by
    conv => lhs; rw [e, ← List.append_assoc, num_append, num_append, l4]
  rw [l4] at h1
  have h4 : (4294967296 : Nat) ^ (5 - 1 - j) = 256 ^ ((x.drop (4 * j)).drop 4).length := by
    rw [lr, show (4294967296 : Nat) = 256 ^ 4 from rfl, ← Nat.pow_mul, show 5 - 1 - j = 4 - j by omega]
  rw [dg, h4, h3, Nat.mul_comm _ (256 ^ ((x.drop (4 * j)).drop 4).length), Nat.mul_add_div (Nat.lt_of_le_of_lt (Nat.zero_le _) h2), Nat.div_eq_of_lt h2, Nat.add_zero]
  generalize num ((x.drop (4 * j)).take 4) = m at *
  omega
theorem splice_len {α : Type} (L l : List α) (k : Nat) (h : k + l.length ≤ L.length) : (splice L k l).length = L.length := by simp [splice]; omega
theorem splice_back {α : Type} (L l : List α) (off n : Nat) (v : α) (hv : l[n]? = some v) (hl : off + l.length ≤ L.length) : (splice L (off + (n + 1)) (l.drop (n + 1))).set (off + n) v = splice L (off + n) (l.drop n) := by
  have hn : n < l.length := (List.getElem?_eq_some_iff.1 hv).1
  apply List.ext_getElem?
  intro j
  simp only [splice, List.getElem?_set, List.getElem?_append, List.length_take, List.length_append, List.length_drop, List.getElem?_take, List.getElem?_drop]
  by_cases h1 : j < off + n
  · simp [h1, show min (off + n) L.length = off + n by omega, show min (off + (n + 1)) L.length = off + (n + 1) by omega, show off + n ≠ j by omega, show j < off + (n + 1) by omega]
  · by_cases h2 : j = off + n
    · subst h2
      simp [show min (off + n) L.length = off + n by omega, show min (off + (n + 1)) L.length = off + (n + 1) by omega, hv]
      rw [if_pos (by omega), if_pos (by omega)]
    · by_cases h3 : j < off + l.length
      · simp [h1, show min (off + n) L.length = off + n by omega, show min (off + (n + 1)) L.length = off + (n + 1) by omega, show off + n ≠ j by omega, show ¬ j < off + (n + 1) by omega, show j - (off + (n + 1)) < l.length - (n + 1) by omega, show j - (off + n) < l.length - n by omega, show n + 1 + (j - (off + (n + 1))) = n + (j - (off + n)) by omega]
      · simp [h1, show min (off + n) L.length = off + n by omega, show min (off + (n + 1)) L.length = off + (n + 1) by omega, show off + n ≠ j by omega, show ¬ j < off + (n + 1) by omega, show ¬ j - (off + (n + 1)) < l.length - (n + 1) by omega, show ¬ j - (off + n) < l.length - n by omega]
        congr 1; omega
def d62 : List UInt8 := [48, 49, 50, 51, 52, 53, 54, 55, 56, 57, 65, 66, 67, 68, 69, 70, 71, 72, 73, 74, 75, 76, 77, 78, 79, 80, 81, 82, 83, 84, 85, 86, 87, 88, 89, 90, 97, 98, 99, 100, 101, 102, 103, 104, 105, 106, 107, 108, 109, 110, 111, 112, 113, 114, 115, 116, 117, 118, 119, 120, 121, 122]

/-- Four bytes inside. -/
theorem Rd.part {w : World} {a : Option Addr} {bs : List UInt8} (h : Rd w a bs) (k m : Nat) (hm : k + m ≤ bs.length) (h0 : 0 < m) : Rd w (a.map (·.add k)) ((bs.drop k).take m) := by
  refine ⟨by rw [List.length_take, List.length_drop]; have := h.1; omega, ?_⟩
  rcases h.2 with rfl | ⟨b, off, rfl, hc⟩
  · simp at hm; omega
  · refine .inr ⟨b, off + k, by simp [Addr.add_lit], fun i hi => ?_⟩
    rw [List.length_take, List.length_drop] at hi
    rw [Nat.add_assoc, hc (k + i) (by omega)]
    simp [B, show i < m by omega]

/-- The five words of twenty bytes. -/
def words (x : List UInt8) : List Value := (List.range 5).map fun j => .int .u32 (num ((x.drop (4 * j)).take 4))
theorem arr5 : Arr Try.prog 127 5 [.int .u32 0, .int .u32 0, .int .u32 0, .int .u32 0, .int .u32 0] where
  und := ⟨_, Try.underlying127, rfl⟩
  size := by kernel_rfl
  zero := fun w => by kernel_rfl
  len := rfl

theorem step_cells {wi w4 : World} {gb gq q k m : Nat} {cq : List Value} {v : Value} {t : TypeId} {F : Nat → Value} (hcq : Blk wi gq cq t) (b4 : Blk w4 gq (cq.set q v) t) (g4 : wi.grownBy w4 (some gq)) (hqk : q ≤ k)
    (h : ∀ j, k ≤ j → j < m → wi.cell? ⟨gb, j, none⟩ = some (F j)) : ∀ j, k + 1 ≤ j → j < m → w4.cell? ⟨gb, j, none⟩ = some (F j) := by
  intro j h1 h2
  have hc := h j (by omega) h2
  by_cases e : gb = gq
  · subst e
    rw [b4.cell, List.getElem?_set_ne (by omega), ← hcq.cell, hc]
  · exact g4.cell hc (by intro e'; exact e (Option.some.inj e'))
theorem step_digits {q R d : Nat} {cq : List Value} (h : ∀ j, j < q → cq[j]? = some (.int .u32 (dg q R j))) (hl : q < cq.length) (hd : d < 4294967296) : ∀ j, j < q + 1 → (cq.set q (.int .u32 (d : Int)))[j]? = some (.int .u32 (dg (q + 1) (R * 4294967296 + d) j)) := by
  intro j hj
  by_cases e : j = q
  · subst e
    rw [List.getElem?_set_self hl, dg_last _ _ _ hd]
  · rw [List.getElem?_set_ne (fun h => e h.symm), h j (by omega), dg_more _ _ _ _ hd (by omega)]
theorem step_lt {q R d : Nat} (h : R < 4294967296 ^ q) (hd : d < 4294967296) : R * 4294967296 + d < 4294967296 ^ (q + 1) := by
  rw [Nat.pow_succ]
  have : (R + 1) * 4294967296 ≤ 4294967296 ^ q * 4294967296 := Nat.mul_le_mul_right _ h
  omega
theorem step_ge {q R d : Nat} (h : q = 0 ∨ 4294967296 ^ (q - 1) ≤ R) (h0 : ¬ (q = 0 ∧ d = 0)) : 4294967296 ^ (q + 1 - 1) ≤ R * 4294967296 + d := by
  by_cases e : q = 0
  · subst e
    clear h
    rw [show 0 + 1 - 1 = 0 from rfl, Nat.pow_zero]
    omega
  · rcases h with h | h
    · exact absurd h e
    · rw [show q + 1 - 1 = (q - 1) + 1 by omega, Nat.pow_succ]
      exact Nat.le_trans (Nat.mul_le_mul_right 4294967296 h) (Nat.le_add_right _ _)
theorem below_zero (w : World) : Below 0 w w := ⟨rfl, rfl, rfl, Nat.le_refl _, fun _ _ => rfl⟩
theorem d62_at (r : Nat) (h : r < 62) : ((⟨d62.toArray⟩ : ByteArray)[r]'(show r < (⟨d62.toArray⟩ : ByteArray).size from h)) = d62.getD r 0 := by
  have h1 : r < d62.length := h
  have h2 : d62.toArray[r]'(by simpa using h1) = d62.getD r 0 := by simp [h1]
  exact h2
/-- copy of the beginning of a string into a block. -/
theorem wp_copy_str {P : Program} {ops : Array Oper} {rest : List Oper} {o : Oper} {a : Act} {w : World} {Q : Exit → Act → World → Prop} (hgd : o.guard = none) {d s : Operand} {dT sT : TypeId}
    (ho : o.op = .call { callee := .builtin .copy, args := #[d, s], argTypes := #[dT, sT] }) {elem : TypeId} (hu : P.underlying dT = some (.slice elem)) (hsz : (P.info? elem).map (·.size) = some 1)
    {g off dLen dCap : Nat} (hd : a.eval d = .slice (some ⟨g, off, none⟩) dLen dCap) {sl : List UInt8} (hs : a.eval s = .string ⟨sl.toArray⟩) {cs : List Value} {t : TypeId} (hg : Blk w g cs t) (hdl : dLen ≤ sl.length) (hfit : off + dLen ≤ cs.length)
    (h : ∀ w', Blk w' g (splice cs off (bvs (sl.take dLen))) t → w.grownBy w' (some g) → wpList P ops Q rest (a.put o.dst (.int .i64 dLen)) w') : wpList P ops Q (o :: rest) a w := by
  refine wpList_plain hgd fun K hK => ?_
  have hlen : (bvs (sl.take dLen)).length = dLen := by rw [bvs_length, List.length_take]; omega
  have hst := run_storeCells_at P g off t (bvs (sl.take dLen)) 0 cs.toArray w hg (by rw [hlen]; simpa using hfit) (bvs_one _)
  have e : (cs.toArray.toList.take (off + 0) ++ bvs (sl.take dLen) ++ cs.toArray.toList.drop (off + 0 + (bvs (sl.take dLen)).length)).toArray = (splice cs off (bvs (sl.take dLen))).toArray := by simp [splice]
  rw [e] at hst
  have hmin : Nat.min (⟨sl.toArray⟩ : ByteArray).size dLen = dLen := Nat.min_eq_right hdl
  have htk : List.take dLen (List.map (fun b : UInt8 => Value.int IntKind.u8 (b.toNat : Int)) sl) = bvs (sl.take dLen) := by
    rw [← List.map_take]; rfl
  cases hq : P.info? elem with
  | none => simp [hq] at hsz
  | some i =>
    have hrun : (Builtin.copy_ #[dT, sT] o.type #[.slice (some ⟨g, off, none⟩) dLen dCap, .string ⟨sl.toArray⟩]).run P w = .ok (.int .i64 dLen) (w.setRow g (splice cs off (bvs (sl.take dLen))).toArray) := by
      simp [Builtin.copy_, run_underlying hu, Builtin.lenOf, Builtin.firstCells, sizeOf, typeInfo, hq, hmin]
      rw [htk, hst]
      simp [Result.andThen, goInt]
    unfold Oper.wp
    simp [execOp, ho, resolve, invoke, builtin, hd, hs, hrun, Result.andThen]
    exact hK _ _ (h _ (setRow_heap w g _ _ t _ hg) ⟨rfl, rfl, rfl, by simp, fun k _ hk => setRow_other w g k _ (by simpa using hk)⟩)
theorem splice_fill {α : Type} (L l : List α) (off n : Nat) (hl : off + l.length ≤ L.length) (hn : n ≤ l.length) : splice (splice L (off + n) (l.drop n)) off (l.take n) = splice L off l := by
  have lA : (L.take (off + n)).length = off + n := by rw [List.length_take]; omega
  have lt : (l.take n).length = n := by rw [List.length_take]; omega
  have hX : splice L (off + n) (l.drop n) = L.take (off + n) ++ (l.drop n ++ L.drop (off + l.length)) := by
    rw [splice, List.length_drop, show off + n + (l.length - n) = off + l.length by omega]
  have h1 : (L.take (off + n) ++ (l.drop n ++ L.drop (off + l.length))).take off = L.take off := by
    rw [List.take_append_of_le_length (by omega), List.take_take, Nat.min_eq_left (by omega)]
  have h2 : (L.take (off + n) ++ (l.drop n ++ L.drop (off + l.length))).drop (off + n) = l.drop n ++ L.drop (off + l.length) := List.drop_left' lA
  rw [hX]
  show (L.take (off + n) ++ (l.drop n ++ L.drop (off + l.length))).take off ++ (l.take n ++ (L.take (off + n) ++ (l.drop n ++ L.drop (off + l.length))).drop (off + (l.take n).length)) = _
  rw [lt, h1, h2, ← List.append_assoc (l.take n), List.take_append_drop, splice]
theorem zeros62 (N t n : Nat) (hn : n = 27 - t) (h : N / 62 ^ t = 0) : (bvs (writ d62 27 N)).take n = bvs ((List.replicate 27 (48 : UInt8)).take n) := by
  have e : (writ d62 27 N).take n = (List.replicate 27 (48 : UInt8)).take n := by
    apply List.ext_getElem?
    intro i
    rw [List.getElem?_take, List.getElem?_take]
    by_cases hi : i < n
    · rw [if_pos hi, if_pos hi, writ, List.getElem?_map, List.getElem?_range (by omega), List.getElem?_replicate, if_pos (by omega), Option.map_some]
      have e2 : N / d62.length ^ (27 - 1 - i) = 0 := by
        show N / 62 ^ (27 - 1 - i) = 0
        rw [show 27 - 1 - i = t + (26 - i - t) by omega, Nat.pow_add, ← Nat.div_div_eq_div_mul, h, Nat.zero_div]
      rw [e2]
      rfl
    · rw [if_neg hi, if_neg hi]
  rw [bvs, ← List.map_take, e]
  rfl
theorem ks_word {b o k c n : Nat} {x : List UInt8} {w : World} (hr : Rd w (some ⟨b, o, none⟩) x) (hx : x.length = 20) (hk : k + 4 ≤ 20) (hn : n = 4) :
    Calls Try.prog 71 #[.slice (some ⟨b, o + k, none⟩) n c] w fun e w' => e = .returned (.int .u32 (num ((x.drop k).take 4))) ∧ w = w' := by
  subst hn
  have l4 : ((x.drop k).take 4).length = 4 := by rw [List.length_take, List.length_drop, hx]; omega
  have h4 : Rd w (some ⟨b, o + k, none⟩) ((x.drop k).take 4) := by
    have := hr.part k 4 (by omega) (by omega)
    rwa [Option.map_some, Addr.add_mid] at this
  have := ks_get32 (some ⟨b, o + k, none⟩) c ((x.drop k).take 4) w h4 (by omega)
  rw [l4] at this
  refine this.mono ?_
  rintro e w' ⟨rfl, rfl⟩
  rw [List.take_of_length_le (by omega)]
  exact ⟨rfl, rfl⟩
theorem words_one (x : List UInt8) : ∀ u ∈ words x, u.oneCell' = true := by
  intro u hu
  obtain ⟨_, _, rfl⟩ := List.mem_map.1 hu
  rfl
set_option maxHeartbeats 2000000 in
set_option maxRecDepth 100000 in
theorem enc62_ok (gd off capd : Nat) (cs : List Value) (td : TypeId) (a1 : Option Addr) (x : List UInt8) (c1 : Nat) (w : World) (hd : Blk w gd cs td) (hfit : off + 27 ≤ cs.length) (h1 : Rd w a1 x) (hx : x.length = 20) (hc1 : 20 ≤ c1) (hcd : 27 ≤ capd) :
    Calls Try.prog 86 #[.slice (some ⟨gd, off, none⟩) 27 capd, .slice a1 20 c1] w fun e w' => e = .returned (.tuple #[]) ∧ Blk w' gd (splice cs off (bvs (writ d62 27 (num x)))) td ∧ w.grownBy w' (some gd) := by
  have L := Lib.hid hx
  have hwords : ∀ j, j < 5 → (words x)[j]? = some (.int .u32 (dg 5 (num x) j)) := by
    intro j hj
    rw [words, List.getElem?_map, List.getElem?_range hj, Option.map_some, word_dg x hx j hj]
  have HWo := Lib.hid hwords
  have hN : num x < 4294967296 ^ 5 := by
    have := num_lt x
    rw [hx] at this
    exact this
  have HN := Lib.hid hN
  clear hwords hN
  generalize num x = N at *
  obtain ⟨b, o1, rfl, -⟩ := h1.2.resolve_left (by intro h; simp [h] at hx)
  clear hx
  go_enter Try.func86, Try.ntmps86
  go_upto_region 0 with fail
  go_cut [4] from 14 to 29 (fun p wx => ∃ gp, p = .pointer (some ⟨gp, 0, none⟩) ∧ w.heap.size ≤ gp ∧ Blk wx gp (words x) 127 ∧ Below w.heap.size w wx)
  case first =>
    refine region_tree (fun w' => Below w.heap.size w w') (.op 0 0 (.op 1 0 (.op 3 0 (.op 4 0 (.op 6 0 (.op 7 0 (.op 9 0 (.op 10 0 (.op 12 0 (.op 13 0 (.fork 2 16 (.fork 5 16 (.fork 8 16 (.fork 11 16 (.fork 14 16 (.op 15 0 (.op 16 1 (.op 17 2 .nil))) (.op 14 1 (.op 15 0 (.op 17 2 .nil)))) (.op 11 1 (.op 14 1 (.op 15 0 (.op 17 2 .nil))))) (.op 8 1 (.op 11 1 (.op 14 1 (.op 15 0 (.op 17 2 .nil)))))) (.op 5 1 (.op 8 1 (.op 11 1 (.op 14 1 (.op 15 0 (.op 17 2 .nil))))))) (.op 2 1 (.op 5 1 (.op 8 1 (.op 11 1 (.op 14 1 (.op 15 0 (.op 17 2 .nil)))))))))))))))))) rfl (by kernel_rfl) (by kernel_rfl) (by decide) (by intro c a d v w h; cases d <;> exact h) (fun _ _ h => h) ?_
    intro w1 hpW hb1
    clear hpW
    simp only [Tree.opers, List.getElem?_cons_succ, List.getElem?_cons_zero]
    have r1 := h1.kept hb1
    repeat (first | (refine tree_still rfl (still_slice_ij (i := 0) (j := 4) rfl Try.underlying22 (by kernel_rfl) rfl rfl rfl (by decide) (by omega) (by omega)) ?_) | (refine tree_still rfl (still_slice_ij (i := 4) (j := 8) rfl Try.underlying22 (by kernel_rfl) rfl rfl rfl (by decide) (by omega) (by omega)) ?_) | (refine tree_still rfl (still_slice_ij (i := 8) (j := 12) rfl Try.underlying22 (by kernel_rfl) rfl rfl rfl (by decide) (by omega) (by omega)) ?_) | (refine tree_still rfl (still_slice_ij (i := 12) (j := 16) rfl Try.underlying22 (by kernel_rfl) rfl rfl rfl (by decide) (by omega) (by omega)) ?_) | (refine tree_still rfl (still_slice_ij (i := 16) (j := 20) rfl Try.underlying22 (by kernel_rfl) rfl rfl rfl (by decide) (by omega) (by omega)) ?_) | (refine tree_skip rfl ?_) | (refine tree_still (v := ?_) rfl (fun w' hS => ?_) ?_; rotate_left; (focus (go_simp; first | done | with_reducible rfl))); simp only [Act.put, List.setIfInBounds_toArray, List.set_cons_zero, List.set_cons_succ])
    refine tree_fork ?_ ?_
    · go_wp2_with (go_at_call 71; refine (ks_word (k := 0) r1 L.out (by decide) rfl).mono ?_)
      rintro e w9 ⟨rfl, rfl⟩
      go_wp2
      refine ⟨hb1, ?_⟩
      refine tree_fork ?_ ?_
      · go_wp2_with (go_at_call 71; refine (ks_word (k := 4) r1 L.out (by decide) rfl).mono ?_)
        rintro e w9 ⟨rfl, rfl⟩
        go_wp2
        refine ⟨hb1, ?_⟩
        refine tree_fork ?_ ?_
        · go_wp2_with (go_at_call 71; refine (ks_word (k := 8) r1 L.out (by decide) rfl).mono ?_)
          rintro e w9 ⟨rfl, rfl⟩
          go_wp2
          refine ⟨hb1, ?_⟩
          refine tree_fork ?_ ?_
          · go_wp2_with (go_at_call 71; refine (ks_word (k := 12) r1 L.out (by decide) rfl).mono ?_)
            rintro e w9 ⟨rfl, rfl⟩
            go_wp2
            refine ⟨hb1, ?_⟩
            refine tree_fork ?_ ?_
            · go_wp2_with (go_at_call 71; refine (ks_word (k := 16) r1 L.out (by decide) rfl).mono ?_)
              rintro e w9 ⟨rfl, rfl⟩
              go_wp2
              refine ⟨hb1, ?_⟩
              refine tree_still (v := .agg (words x).toArray) rfl (fun w' hS => ?_) ?_
              · go_simp
                rfl
              simp only [Act.put, List.setIfInBounds_toArray, List.set_cons_zero, List.set_cons_succ]
              refine tree_do ?_
              go_wp2_with (refine wp_alloc_blk arr5 hb1 rfl rfl rfl hb1.size ?_)
              intro w2 b2 g2 s2 hb2
              have r2 := r1.kept (below_grown g2)
              go_wp2
              refine ⟨hb2, ?_⟩
              refine tree_last ?_
              go_wp2_with (refine wp_store_blk arr5 hb2 rfl rfl rfl rfl b2 hb1.size rfl rfl (words_one x) ?_)
              intro w3 b3 g3 s3 hb3
              go_wp2
              refine tree_nil ?_
              go_wp2_with fail
              go_meet
              exact ⟨_, rfl, hb1.size, b3, hb3⟩
            · go_wp2_with (refine wp_alloc_blk arr5 hb1 rfl rfl rfl hb1.size ?_)
              intro w2 b2 g2 s2 hb2
              have r2 := r1.kept (below_grown g2)
              go_wp2
              refine ⟨hb2, ?_⟩
              refine tree_do ?_
              go_wp2_with (go_at_call 71; refine (ks_word (k := 16) r2 L.out (by decide) rfl).mono ?_)
              rintro e w9 ⟨rfl, rfl⟩
              go_wp2
              refine ⟨hb2, ?_⟩
              refine tree_still (v := .agg (words x).toArray) rfl (fun w' hS => ?_) ?_
              · go_simp
                rfl
              simp only [Act.put, List.setIfInBounds_toArray, List.set_cons_zero, List.set_cons_succ]
              refine tree_last ?_
              go_wp2_with (refine wp_store_blk arr5 hb2 rfl rfl rfl rfl b2 hb1.size rfl rfl (words_one x) ?_)
              intro w3 b3 g3 s3 hb3
              go_wp2
              refine tree_nil ?_
              go_wp2_with fail
              go_meet
              exact ⟨_, rfl, hb1.size, b3, hb3⟩
          · go_wp2_with (refine wp_alloc_blk arr5 hb1 rfl rfl rfl hb1.size ?_)
            intro w2 b2 g2 s2 hb2
            have r2 := r1.kept (below_grown g2)
            go_wp2
            refine ⟨hb2, ?_⟩
            refine tree_do ?_
            go_wp2_with (go_at_call 71; refine (ks_word (k := 12) r2 L.out (by decide) rfl).mono ?_)
            rintro e w9 ⟨rfl, rfl⟩
            go_wp2
            refine ⟨hb2, ?_⟩
            refine tree_do ?_
            go_wp2_with (go_at_call 71; refine (ks_word (k := 16) r2 L.out (by decide) rfl).mono ?_)
            rintro e w9 ⟨rfl, rfl⟩
            go_wp2
            refine ⟨hb2, ?_⟩
            refine tree_still (v := .agg (words x).toArray) rfl (fun w' hS => ?_) ?_
            · go_simp
              rfl
            simp only [Act.put, List.setIfInBounds_toArray, List.set_cons_zero, List.set_cons_succ]
            refine tree_last ?_
            go_wp2_with (refine wp_store_blk arr5 hb2 rfl rfl rfl rfl b2 hb1.size rfl rfl (words_one x) ?_)
            intro w3 b3 g3 s3 hb3
            go_wp2
            refine tree_nil ?_
            go_wp2_with fail
            go_meet
            exact ⟨_, rfl, hb1.size, b3, hb3⟩
        · go_wp2_with (refine wp_alloc_blk arr5 hb1 rfl rfl rfl hb1.size ?_)
          intro w2 b2 g2 s2 hb2
          have r2 := r1.kept (below_grown g2)
          go_wp2
          refine ⟨hb2, ?_⟩
          refine tree_do ?_
          go_wp2_with (go_at_call 71; refine (ks_word (k := 8) r2 L.out (by decide) rfl).mono ?_)
          rintro e w9 ⟨rfl, rfl⟩
          go_wp2
          refine ⟨hb2, ?_⟩
          refine tree_do ?_
          go_wp2_with (go_at_call 71; refine (ks_word (k := 12) r2 L.out (by decide) rfl).mono ?_)
          rintro e w9 ⟨rfl, rfl⟩
          go_wp2
          refine ⟨hb2, ?_⟩
          refine tree_do ?_
          go_wp2_with (go_at_call 71; refine (ks_word (k := 16) r2 L.out (by decide) rfl).mono ?_)
          rintro e w9 ⟨rfl, rfl⟩
          go_wp2
          refine ⟨hb2, ?_⟩
          refine tree_still (v := .agg (words x).toArray) rfl (fun w' hS => ?_) ?_
          · go_simp
            rfl
          simp only [Act.put, List.setIfInBounds_toArray, List.set_cons_zero, List.set_cons_succ]
          refine tree_last ?_
          go_wp2_with (refine wp_store_blk arr5 hb2 rfl rfl rfl rfl b2 hb1.size rfl rfl (words_one x) ?_)
          intro w3 b3 g3 s3 hb3
          go_wp2
          refine tree_nil ?_
          go_wp2_with fail
          go_meet
          exact ⟨_, rfl, hb1.size, b3, hb3⟩
      · go_wp2_with (refine wp_alloc_blk arr5 hb1 rfl rfl rfl hb1.size ?_)
        intro w2 b2 g2 s2 hb2
        have r2 := r1.kept (below_grown g2)
        go_wp2
        refine ⟨hb2, ?_⟩
        refine tree_do ?_
        go_wp2_with (go_at_call 71; refine (ks_word (k := 4) r2 L.out (by decide) rfl).mono ?_)
        rintro e w9 ⟨rfl, rfl⟩
        go_wp2
        refine ⟨hb2, ?_⟩
        refine tree_do ?_
        go_wp2_with (go_at_call 71; refine (ks_word (k := 8) r2 L.out (by decide) rfl).mono ?_)
        rintro e w9 ⟨rfl, rfl⟩
        go_wp2
        refine ⟨hb2, ?_⟩
        refine tree_do ?_
        go_wp2_with (go_at_call 71; refine (ks_word (k := 12) r2 L.out (by decide) rfl).mono ?_)
        rintro e w9 ⟨rfl, rfl⟩
        go_wp2
        refine ⟨hb2, ?_⟩
        refine tree_do ?_
        go_wp2_with (go_at_call 71; refine (ks_word (k := 16) r2 L.out (by decide) rfl).mono ?_)
        rintro e w9 ⟨rfl, rfl⟩
        go_wp2
        refine ⟨hb2, ?_⟩
        refine tree_still (v := .agg (words x).toArray) rfl (fun w' hS => ?_) ?_
        · go_simp
          rfl
        simp only [Act.put, List.setIfInBounds_toArray, List.set_cons_zero, List.set_cons_succ]
        refine tree_last ?_
        go_wp2_with (refine wp_store_blk arr5 hb2 rfl rfl rfl rfl b2 hb1.size rfl rfl (words_one x) ?_)
        intro w3 b3 g3 s3 hb3
        go_wp2
        refine tree_nil ?_
        go_wp2_with fail
        go_meet
        exact ⟨_, rfl, hb1.size, b3, hb3⟩
    · go_wp2_with (refine wp_alloc_blk arr5 hb1 rfl rfl rfl hb1.size ?_)
      intro w2 b2 g2 s2 hb2
      have r2 := r1.kept (below_grown g2)
      go_wp2
      refine ⟨hb2, ?_⟩
      refine tree_do ?_
      go_wp2_with (go_at_call 71; refine (ks_word (k := 0) r2 L.out (by decide) rfl).mono ?_)
      rintro e w9 ⟨rfl, rfl⟩
      go_wp2
      refine ⟨hb2, ?_⟩
      refine tree_do ?_
      go_wp2_with (go_at_call 71; refine (ks_word (k := 4) r2 L.out (by decide) rfl).mono ?_)
      rintro e w9 ⟨rfl, rfl⟩
      go_wp2
      refine ⟨hb2, ?_⟩
      refine tree_do ?_
      go_wp2_with (go_at_call 71; refine (ks_word (k := 8) r2 L.out (by decide) rfl).mono ?_)
      rintro e w9 ⟨rfl, rfl⟩
      go_wp2
      refine ⟨hb2, ?_⟩
      refine tree_do ?_
      go_wp2_with (go_at_call 71; refine (ks_word (k := 12) r2 L.out (by decide) rfl).mono ?_)
      rintro e w9 ⟨rfl, rfl⟩
      go_wp2
      refine ⟨hb2, ?_⟩
      refine tree_do ?_
      go_wp2_with (go_at_call 71; refine (ks_word (k := 16) r2 L.out (by decide) rfl).mono ?_)
      rintro e w9 ⟨rfl, rfl⟩
      go_wp2
      refine ⟨hb2, ?_⟩
      refine tree_still (v := .agg (words x).toArray) rfl (fun w' hS => ?_) ?_
      · go_simp
        rfl
      simp only [Act.put, List.setIfInBounds_toArray, List.set_cons_zero, List.set_cons_succ]
      refine tree_last ?_
      go_wp2_with (refine wp_store_blk arr5 hb2 rfl rfl rfl rfl b2 hb1.size rfl rfl (words_one x) ?_)
      intro w3 b3 g3 s3 hb3
      go_wp2
      refine tree_nil ?_
      go_wp2_with fail
      go_meet
      exact ⟨_, rfl, hb1.size, b3, hb3⟩
  case rest =>
    obtain ⟨gp, rfl, hgp, bp, hbc⟩ := hcut
    have hgd := hd.lt
    have dc := hd.kept hbc
    have gc : w.grownBy wc (some gd) := grown_below hbc _
    clear hd
    go_wp2_with (refine wp_alloc_blk arr5 (Below.refl wc.heap.size wc) rfl rfl rfl (Nat.le_refl _) ?_)
    intro w2 b2 g2 s2 hb2
    have p2 := bp.kept hb2
    have d2 := dc.kept hb2
    have G2 := grown_then gc hb2
    have hq : gp < wc.heap.size := bp.lt
    have hq2 : w.heap.size ≤ wc.heap.size := hbc.size
    clear hb2 g2 s2 bp dc gc hbc
    generalize wc.heap.size = gq at *
    go_wp2_with (refine wp_store_blk arr5 (below_zero w2) rfl rfl rfl rfl b2 (Nat.zero_le _) rfl rfl (by decide) ?_)
    intro w3 b3 g3 s3 hb3
    have p3 := p2.grown g3 (by intro e; have := Option.some.inj e; omega)
    have d3 := d2.grown g3 (by intro e; have := Option.some.inj e; omega)
    have G3 := grown_new G2 g3 hq2
    clear hb3 s3 g3 b2 p2 d2 G2
    have hT : splice cs (off + 27) ((bvs (writ d62 27 N)).drop 27) = cs := by
      rw [List.drop_of_length_le (by rw [bvs_length, writ_length]; exact Nat.le_refl _)]
      exact splice_nil _ _
    have HT := Lib.hid hT
    clear hT
    go_wp2
    go_loopw [5, 6] (fun n bq wr => ∃ t m gb cq, t ≤ 27 ∧ n = .int .i64 ((27 - t : Nat) : Int) ∧ m ≤ 5 ∧ bq = .slice (some ⟨gb, 0, none⟩) m 5 ∧ (t = 0 → m = 5) ∧ N / 62 ^ t < 4294967296 ^ m ∧ (t = 0 ∨ m = 0 ∨ 4294967296 ^ (m - 1) ≤ N / 62 ^ t) ∧
      (∀ j, j < m → wr.cell? ⟨gb, j, none⟩ = some (.int .u32 (dg m (N / 62 ^ t) j))) ∧ Blk wr gq cq 127 ∧ cq.length = 5 ∧ gb ≤ gq ∧ gd < gb ∧
      Blk wr gd (splice cs (off + (27 - t)) ((bvs (writ d62 27 N)).drop (27 - t))) td ∧ w.grownBy wr (some gd)) (fun n _ _ => (intOf n).toNat)
    case atStart =>
      refine ⟨0, 5, gp, _, by omega, rfl, by omega, rfl, fun _ => rfl, by rw [Nat.pow_zero, Nat.div_one]; exact HN.out, .inl rfl, ?_, b3, rfl, by omega, by omega, by rw [HT.out]; exact d3, G3⟩
      intro j hj
      rw [p3.cell, Nat.pow_zero, Nat.div_one]
      exact HWo.out j hj
    case round =>
      obtain ⟨t, m, gb, cq, ht, rfl, hm, rfl, ht0, hV, hnorm, hcell, hcq, hcl, hgb, hgdb, hdst, hG⟩ := hrel
      by_cases hm0 : m = 0
      · subst hm0
        have hmb : (((0 : Nat) : Int) != 0) = false := rfl
        have hV0 : N / 62 ^ t = 0 := by simpa using hV
        have hz := zeros62 N t (27 - t) rfl hV0
        have hfill := splice_fill cs (bvs (writ d62 27 N)) off (27 - t) (by rw [bvs_length, writ_length]; exact hfit) (by rw [bvs_length, writ_length]; omega)
        rw [hz] at hfill
        have HF := Lib.hid hfill
        clear hV0 hz hfill hV hnorm hcell ht0
        go_wp2_with (refine wp_copy_str (sl := List.replicate 27 48) rfl rfl Try.underlying22 (by kernel_rfl) rfl rfl hdst (by simp) (by rw [splice_len _ _ _ (by rw [List.length_drop, bvs_length, writ_length]; omega)]; omega) ?_)
        intro w4 b4 g4
        have b5 : Blk w4 gd (splice (splice cs (off + (27 - t)) ((bvs (writ d62 27 N)).drop (27 - t))) off (bvs ((List.replicate 27 (48 : UInt8)).take (27 - t)))) td := b4
        rw [HF.out] at b5
        have G4 := grown_trans hG g4
        go_wp2
        go_end0
        exact ⟨rfl, b5, G4⟩
      · have hmb : ((m : Int) != 0) = true := by rw [bne_iff_ne]; omega
        have ht26 : t < 27 := by
          rcases Nat.lt_or_ge t 27 with h | h
          · exact h
          · obtain rfl : t = 27 := by omega
            rcases hnorm with h' | h' | h'
            · omega
            · omega
            · exfalso
              have h4 : 0 < N / 62 ^ 27 := Nat.lt_of_lt_of_le (Nat.pow_pos (by decide)) h'
              have h5 : 62 ^ 27 ≤ N := (Nat.div_pos_iff.1 h4).2
              exact absurd (Nat.lt_of_le_of_lt h5 HN.out) (by decide)
        obtain ⟨n, hn⟩ : ∃ n, 27 - t = n + 1 := ⟨26 - t, by omega⟩
        have hn26 : n < 27 := by omega
        have hV' : N / 62 ^ (t + 1) = N / 62 ^ t / 62 := by rw [Nat.pow_succ, ← Nat.div_div_eq_div_mul]
        have hdig : (bvs (writ d62 27 N))[n]? = some (.int .u8 ((d62.getD (N / 62 ^ t % 62) 0).toNat)) := by
          rw [bvs_get _ _ (by rw [writ_length]; exact hn26), B_writ _ _ _ _ hn26, show 27 - 1 - n = t by omega]
          rfl
        rw [hn] at hdst ⊢
        have HV' := Lib.hid hV'
        have Hdig := Lib.hid hdig
        have HVm := Lib.hid hV
        have Hn := Lib.hid hn
        clear hV' hdig hV hn ht0 hnorm
        generalize N / 62 ^ t = V at *
        go_wp2
        go_loopw [8, 9, 40] (fun qs r i wi => ∃ k q cq', k ≤ m ∧ i = .int .i64 (k : Int) ∧ q ≤ k ∧ qs = .slice (some ⟨gq, 0, none⟩) q 5 ∧ r = .int .u64 ((V / 4294967296 ^ (m - k) % 62 : Nat) : Int) ∧ V / 4294967296 ^ (m - k) / 62 < 4294967296 ^ q ∧ (q = 0 ∨ 4294967296 ^ (q - 1) ≤ V / 4294967296 ^ (m - k) / 62) ∧
          (∀ j, k ≤ j → j < m → wi.cell? ⟨gb, j, none⟩ = some (.int .u32 (dg m V j))) ∧ Blk wi gq cq' 127 ∧ cq'.length = 5 ∧ (∀ j, j < q → cq'[j]? = some (.int .u32 (dg q (V / 4294967296 ^ (m - k) / 62) j))) ∧
          Blk wi gd (splice cs (off + (n + 1)) ((bvs (writ d62 27 N)).drop (n + 1))) td ∧ w.grownBy wi (some gd)) (fun _ _ i _ => m - (intOf i).toNat)
        case atStart =>
          refine ⟨0, 0, cq, Nat.zero_le _, rfl, Nat.le_refl _, rfl, ?_, ?_, .inl rfl, fun j _ hj => hcell j hj, hcq, hcl, fun j hj => absurd hj (Nat.not_lt_zero _), hdst, hG⟩
          · rw [Nat.sub_zero, Nat.div_eq_of_lt HVm.out]; rfl
          · rw [Nat.sub_zero, Nat.div_eq_of_lt HVm.out]; decide
        case round =>
          obtain ⟨k, q, cq', hk, rfl, hqk, rfl, rfl, hR, hRn, hcell', hcq', hcl', hqd, hdst', hG'⟩ := hrel
          by_cases hlt : k < m
          · have hc := hcell' k (Nat.le_refl _) hlt
            have hpre := dg_pre m V k hlt
            have hcb := dg_lt m V k
            have hsplit := Nat.div_add_mod (V / 4294967296 ^ (m - k)) 62
            have hr62 : V / 4294967296 ^ (m - k) % 62 < 62 := Nat.mod_lt _ (by decide)
            rw [← hsplit] at hpre
            have hquo := quo_step 62 (V / 4294967296 ^ (m - k) / 62) (V / 4294967296 ^ (m - k) % 62) (dg m V k) hr62
            have hrem := rem_step 62 (V / 4294967296 ^ (m - k) / 62) (V / 4294967296 ^ (m - k) % 62) (dg m V k)
            rw [← hpre] at hquo hrem
            clear hpre hsplit
            generalize V / 4294967296 ^ (m - k) % 62 = r at *
            generalize V / 4294967296 ^ (m - k) / 62 = R at *
            have Hcell := Lib.hid hcell'
            clear hcell'
            generalize dg m V k = c at *
            obtain ⟨d, hd⟩ : ∃ d, (c + r * 4294967296) / 62 = d := ⟨_, rfl⟩
            obtain ⟨r', hr'⟩ : ∃ r', (c + r * 4294967296) % 62 = r' := ⟨_, rfl⟩
            rw [hd] at hquo
            rw [hr'] at hrem
            have hdI : ((c : Int) + (r : Int) * 4294967296) / 62 = (d : Int) := by omega
            have hrI : ((c : Int) + (r : Int) * 4294967296) % 62 = (r' : Int) := by omega
            have hdB : d < 4294967296 := by omega
            have HQ := Lib.hid hquo
            have HR := Lib.hid hrem
            clear hquo hrem hd hr'
            by_cases happ : q = 0 ∧ d = 0
            · obtain ⟨rfl, rfl⟩ := happ
              go_wp2
              go_roundw
              case rel =>
                have e0 : R = 0 := by simp at hR; omega
                exact ⟨k + 1, 0, cq', by omega, by go_num, by omega, rfl, by rw [HR.out, hrI], by rw [HQ.out, e0]; decide, .inl rfl, fun j h1 h2 => Hcell.out j (by omega) h2, hcq', hcl', fun j hj => absurd hj (Nat.not_lt_zero _), hdst', hG'⟩
              case measure => simp [intOf]; omega
            · have hlt4 := step_lt hR hdB
              have hge4 := step_ge hRn happ
              rw [← HQ.out] at hlt4 hge4
              have Hlt4 := Lib.hid hlt4
              have Hge4 := Lib.hid hge4
              have Hqd := Lib.hid hqd
              clear hlt4 hge4 hR hRn hqd
              by_cases hq0 : q = 0
              · subst hq0
                have hq0b : (((0 : Nat) : Int) != 0) = false := rfl
                have hd0b : ((d : Int) != 0) = true := by rw [bne_iff_ne]; omega
                go_wp2_with (at_builtin; refine wp_append_room (below_zero _) rfl rfl Try.underlying128 (by kernel_rfl) rfl rfl rfl rfl hcq' (by omega) (by omega) (Nat.zero_le _) (Nat.zero_le _) ?_)
                intro w4 b4 g4 _
                have c4 := step_cells hcq' b4 g4 hqk Hcell.out
                have q4 := step_digits Hqd.out (by omega) hdB
                rw [← HQ.out] at q4
                have d4 := hdst'.grown g4 (by intro e; have := Option.some.inj e; omega)
                have G4 := grown_new hG' g4 hq2
                have C4 := Lib.hid c4
                have Q4 := Lib.hid q4
                clear c4 q4 g4 hcq' hdst' hG' hc
                go_wp2
                go_roundw
                case rel => ((repeat apply Exists.intro); refine ⟨?_, rfl⟩; exact ⟨k + 1, 0 + 1, _, by omega, by go_num, by omega, rfl, by rw [HR.out], Hlt4.out, .inr Hge4.out, C4.out, b4, by rw [List.length_set]; exact hcl', Q4.out, d4, G4⟩)
                case measure => simp [intOf]; omega
              · have hq0b : ((q : Int) != 0) = true := by rw [bne_iff_ne]; omega
                go_wp2_with (at_builtin; refine wp_append_room (below_zero _) rfl rfl Try.underlying128 (by kernel_rfl) rfl rfl rfl rfl hcq' (by omega) (by omega) (Nat.zero_le _) (Nat.zero_le _) ?_)
                intro w4 b4 g4 _
                have c4 := step_cells hcq' b4 g4 hqk Hcell.out
                have q4 := step_digits Hqd.out (by omega) hdB
                rw [← HQ.out] at q4
                have d4 := hdst'.grown g4 (by intro e; have := Option.some.inj e; omega)
                have G4 := grown_new hG' g4 hq2
                have C4 := Lib.hid c4
                have Q4 := Lib.hid q4
                clear c4 q4 g4 hcq' hdst' hG' hc
                go_wp2
                go_roundw
                case rel => ((repeat apply Exists.intro); refine ⟨?_, rfl⟩; exact ⟨k + 1, q + 1, _, by omega, by go_num, by omega, rfl, by rw [HR.out], Hlt4.out, .inr Hge4.out, C4.out, b4, by rw [List.length_set]; exact hcl', Q4.out, d4, G4⟩)
                case measure => simp [intOf]; omega
          · obtain rfl : k = m := by omega
            rw [Nat.sub_self, Nat.pow_zero, Nat.div_one] at hR hRn hqd ⊢
            have hr62 : V % 62 < 62 := Nat.mod_lt _ (by decide)
            have HR := Lib.hid hR
            have HRn := Lib.hid hRn
            have Hqd := Lib.hid hqd
            clear hR hRn hqd hcell' hcell
            generalize V % 62 = r at *
            have hset := splice_back cs (bvs (writ d62 27 N)) off n _ Hdig.out (by rw [bvs_length, writ_length]; exact hfit)
            have HSet := Lib.hid hset
            clear hset
            go_wp2_with (refine wp_store_cell rfl rfl (by kernel_rfl) rfl rfl rfl hdst' (by rw [splice_len _ _ _ (by rw [List.length_drop, bvs_length, writ_length]; omega)]; omega) ?_)
            intro w4 b4 g4 s4
            have b5 : Blk w4 gd ((splice cs (off + (n + 1)) ((bvs (writ d62 27 N)).drop (n + 1))).set (off + n) (.int .u8 (d62.getD r 0).toNat)) td := by
              rw [← d62_at r hr62]
              exact b4
            rw [HSet.out] at b5
            have hcq4 := hcq'.grown g4 (by intro e; have := Option.some.inj e; omega)
            have G4 := grown_trans hG' g4
            have C4 : Hid (∀ j, j < q → w4.cell? ⟨gq, j, none⟩ = some (.int .u32 (dg q (N / 62 ^ (t + 1)) j))) := by
              intro j hj
              rw [hcq4.cell, HV'.out]
              exact Hqd.out j hj
            have e27 : 27 - (t + 1) = n := by have := Hn.out; omega
            have E27 := Lib.hid e27
            have hR' := HR.out
            have hRn' := HRn.out
            rw [← HV'.out] at hR' hRn'
            have HR' := Lib.hid hR'
            have HRn' := Lib.hid hRn'
            clear e27 hR' hRn' b4 hcq' hG' hdst' g4 s4
            go_wp2
            go_roundw
            case rel => exact ⟨t + 1, q, gq, cq', by omega, by rw [E27.out], by omega, rfl, fun h => absurd h (Nat.succ_ne_zero t), HR'.out, .inr HRn'.out, C4.out, hcq4, hcl', Nat.le_refl _, by omega, by rw [E27.out]; exact b5, G4⟩
            case measure => simp [intOf]
end Go.Proofs.Ytbacbgicfomkbaa
