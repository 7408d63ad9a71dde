/- A reader of some bytes: its Read, and reading so many bytes of it. -/
import Derived.Test.YtcojcohipmoopaaTextK
namespace Go.Proofs.Ytcojcohipmoopaa
open Go.RowKit
set_option linter.unusedVariables false

/-- The cells of a feed: what is left of its bytes, and its end. -/
def feedC (a : Option Addr) (n c : Nat) (e : Value) : List Value := [.slice a n c, e]
def EOF : ByteArray := ⟨#[69, 79, 70]⟩

/-- copy of the first bytes of a byte slice into a part of a block. -/
theorem wp_copy_min {P : Program} {ops : Array Oper} {rest : List Oper} {o : Oper} {a : Act} {w : World} {Q : Exit → Act → World → Prop} (hgd : o.guard = none) {d s : Operand} {dT sT : TypeId}
    (ho : o.op = .call { callee := .builtin .copy, args := #[d, s], argTypes := #[dT, sT] }) {elem : TypeId} (hu : P.underlying dT = some (.slice elem)) (hsz : (P.info? elem).map (·.size) = some 1)
    {g off : Nat} {sp : Option Addr} {n m dCap sCap k : Nat} (hd : a.eval d = .slice (some ⟨g, off, none⟩) m dCap) (hs : a.eval s = .slice sp n sCap)
    {cur : List Value} {t : TypeId} (hg : Blk w g cur t) (bs : List UInt8) (hr : Rd w sp bs) (hn : bs.length = n) (hk : Nat.min n m = k) (hfit : off + k ≤ cur.length) (h0 : 0 < n)
    (h : ∀ w', Blk w' g (splice cur off (bvs (bs.take k))) t → w.grownBy w' (some g) → w'.heap.size = w.heap.size → wpList P ops Q rest (a.put o.dst (.int .i64 k)) w') : wpList P ops Q (o :: rest) a w := by
  obtain ⟨ad, rfl, hsrc⟩ := hr.src (by omega)
  have hl : (bvs (bs.take k)).length = k := by rw [bvs_length, List.length_take]; subst hk hn; exact Nat.min_eq_left (Nat.min_le_left _ _)
  refine wpList_copy_own hgd d s dT sT ho elem hu hsz g off _ _ ad _ _ hd hs cur.toArray t hg (bvs (bs.take k)) (by rw [hl, hk]) ?_ (by rw [hl]; simpa using hfit) (bvs_one _) ?_
  · intro j v hv
    refine hsrc j v ?_
    unfold bvs at hv ⊢
    rw [List.map_take, List.getElem?_take] at hv
    split at hv
    · exact hv
    · cases hv
  have e : (cur.toArray.toList.take off ++ (bvs (bs.take k) ++ cur.toArray.toList.drop (off + (bvs (bs.take k)).length))).toArray = (splice cur off (bvs (bs.take k))).toArray := by
    simp [splice]
  rw [e]
  have e2 : goInt (bvs (bs.take k)).length = .int .i64 k := by simp [goInt, hl]
  rw [e2]
  have g' : w.grownBy (w.setRow g (splice cur off (bvs (bs.take k))).toArray) (some g) := ⟨rfl, rfl, rfl, by simp, fun k _ hk => setRow_other w g k _ (by simpa using hk)⟩
  exact h _ (setRow_heap w g _ _ t _ hg) g' (by simp)

/-- The tail of a byte slice, read. -/
theorem Rd.tail {w : World} {b off : Nat} {bs : List UInt8} (h : Rd w (some ⟨b, off, none⟩) bs) (k : Nat) (hk : k ≤ bs.length) : Rd w (some ⟨b, off + k, none⟩) (bs.drop k) := by
  refine ⟨by rw [List.length_drop]; have := h.1; omega, ?_⟩
  rcases h.2 with rfl | ⟨b', off', he, hc⟩
  · exact .inl (by simp)
  · simp only [Option.some.injEq, Addr.mk.injEq] at he
    obtain ⟨rfl, rfl, -⟩ := he
    refine .inr ⟨b, off + k, rfl, fun i hi => ?_⟩
    rw [List.length_drop] at hi
    rw [show off + k + i = off + (k + i) by omega, hc (k + i) (by omega)]
    simp [B, List.getElem?_drop]
theorem Rd.nil (w : World) (a : Option Addr) : Rd w a [] := ⟨by simp, .inl rfl⟩
/-- What two turned blocks leave. -/
structure Two (w w' : World) (g gf : Nat) : Prop where
  os : w'.os = w.os
  tape : w'.tape = w.tape
  output : w'.output = w.output
  size : w'.heap.size = w.heap.size
  block : ∀ k, k < w.heap.size → k ≠ g → k ≠ gf → w'.heap[k]? = w.heap[k]?
theorem Two.mk2 {w w1 w2 : World} {g gf : Nat} (h1 : w.grownBy w1 (some g)) (s1 : w1.heap.size = w.heap.size) (h2 : w1.grownBy w2 (some gf)) (s2 : w2.heap.size = w1.heap.size) : Two w w2 g gf :=
  ⟨h2.os.trans h1.os, h2.tape.trans h1.tape, h2.output.trans h1.output, s2.trans s1, fun k hk h3 h4 =>
    (h2.block k (by omega) (by simpa using h4)).trans (h1.block k hk (by simpa using h3))⟩
theorem Two.refl (w : World) (g gf : Nat) : Two w w g gf := ⟨rfl, rfl, rfl, rfl, fun _ _ _ _ => rfl⟩
theorem Two.trans {w w1 w2 : World} {g gf : Nat} (h1 : Two w w1 g gf) (h2 : Two w1 w2 g gf) : Two w w2 g gf :=
  ⟨h2.os.trans h1.os, h2.tape.trans h1.tape, h2.output.trans h1.output, h2.size.trans h1.size, fun k hk h3 h4 => (h2.block k (by rw [h1.size]; exact hk) h3 h4).trans (h1.block k hk h3 h4)⟩
theorem Two.below {w0 w w' : World} {B g gf : Nat} (h : Two w w' g gf) (hb : Below B w0 w) (hg : B ≤ g) (hgf : B ≤ gf) : Below B w0 w' :=
  hb.trans ⟨h.os, h.tape, h.output, Nat.le_of_eq h.size.symm, fun k hk => (by
    by_cases hlt : k < w.heap.size
    · exact h.block k hlt (by omega) (by omega)
    · have h1 : ¬ k < w'.heap.size := by rw [h.size]; exact hlt
      simp [Array.getElem?_eq_none (Nat.le_of_not_lt hlt), Array.getElem?_eq_none (Nat.le_of_not_lt h1)])⟩
theorem Two.drew {w w' : World} {g gf : Nat} (h : Two w w' g gf) (n : Nat) : Two w (w'.drewN n) g gf := ⟨h.os, h.tape, h.output, h.size, h.block⟩
end Go.Proofs.Ytcojcohipmoopaa
