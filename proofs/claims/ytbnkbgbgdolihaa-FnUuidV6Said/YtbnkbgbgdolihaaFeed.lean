/- A reader of some bytes: its Read, and reading so many bytes of it. -/
import Derived.Test.YtbnkbgbgdolihaaTextK
namespace Go.Proofs.Ytbnkbgbgdolihaa
open Go.RowKit
set_option linter.unusedVariables false

/-- The cells of a feed: what is left of its bytes, and its end. -/
def feedC (a : Option Addr) (n c : Nat) (e : Value) : List Value := [.slice a n c, e]
def EOF : ByteArray := ⟨#[69, 79, 70]⟩

/-- copy of the first bytes of a byte slice into a part of a block. -/
theorem wp_copy_min {P : Program} {ops : Array Oper} {rest : List Oper} {o : Oper} {a : Act} {w : World} {Q : Exit → Act → World → Prop} (hgd : o.guard = none) {d s : Operand} {dT sT : TypeId}
    (ho : o.op = .call { callee := .builtin .copy, args := #[d, s], argTypes := #[dT, sT] }) {elem : TypeId} (hu : P.underlying dT = some (.slice elem)) (hsz : (P.info? elem).map (·.size) = some 1)
    {g off : Nat} {sp : Option Addr} {n m dCap sCap k : Nat} (hd : a.eval d = .slice (some ⟨g, off, none⟩) m dCap) (hs : a.eval s = .slice sp n sCap)
    {cur : List Value} {t : TypeId} (hg : Blk w g cur t) (bs : List UInt8) (hr : Rd w sp bs) (hn : bs.length = n) (hk : Nat.min n m = k) (hfit : off + k ≤ cur.length) (h0 : 0 < n)
    (h : ∀ w', Blk w' g (splice cur off (bvs (bs.take k))) t → w.grownBy w' (some g) → w'.heap.size = w.heap.size → wpList P ops Q rest (a.put o.dst (.int .i64 k)) w') : wpList P ops Q (o :: rest) a w := by
  obtain ⟨ad, rfl, hsrc⟩ := hr.src (by omega)
  have hl : (bvs (bs.take k)).length = k := by rw [bvs_length, List.length_take]; subst hk hn; exact Nat.min_eq_left (Nat.min_le_left _ _)
  refine wpList_copy_own hgd d s dT sT ho elem hu hsz g off _ _ ad _ _ hd hs cur.toArray t hg (bvs (bs.take k)) (by rw [hl, hk]) ?_ (by rw [hl]; simpa using hfit) (bvs_one _) ?_
  · intro j v hv
    refine hsrc j v ?_
    unfold bvs at hv ⊢
    rw [List.map_take, List.getElem?_take] at hv
    split at hv
    · exact hv
    · cases hv
  have e : (cur.toArray.toList.take off ++ (bvs (bs.take k) ++ cur.toArray.toList.drop (off + (bvs (bs.take k)).length))).toArray = (splice cur off (bvs (bs.take k))).toArray := by
    simp [splice]
  rw [e]
  have e2 : goInt (bvs (bs.take k)).length = .int .i64 k := by simp [goInt, hl]
  rw [e2]
  have g' : w.grownBy (w.setRow g (splice cur off (bvs (bs.take k))).toArray) (some g) := ⟨rfl, rfl, rfl, by simp, fun k _ hk => setRow_other w g k _ (by simpa using hk)⟩
  exact h _ (setRow_heap w g _ _ t _ hg) g' (by simp)

/-- The tail of a byte slice, read. -/
theorem Rd.tail {w : World} {b off : Nat} {bs : List UInt8} (h : Rd w (some ⟨b, off, none⟩) bs) (k : Nat) (hk : k ≤ bs.length) : Rd w (some ⟨b, off + k, none⟩) (bs.drop k) := by
  refine ⟨by rw [List.length_drop]; have := h.1; omega, ?_⟩
  rcases h.2 with rfl | ⟨b', off', he, hc⟩
  · exact .inl (by simp)
  · simp only [Option.some.injEq, Addr.mk.injEq] at he
    obtain ⟨rfl, rfl, -⟩ := he
    refine .inr ⟨b, off + k, rfl, fun i hi => ?_⟩
    rw [List.length_drop] at hi
    rw [show off + k + i = off + (k + i) by omega, hc (k + i) (by omega)]
    simp [B, List.getElem?_drop]
theorem Rd.nil (w : World) (a : Option Addr) : Rd w a [] := ⟨by simp, .inl rfl⟩
/-- What two turned blocks leave. -/
structure Two (w w' : World) (g gf : Nat) : Prop where
  os : w'.os = w.os
  tape : w'.tape = w.tape
  output : w'.output = w.output
  size : w'.heap.size = w.heap.size
  block : ∀ k, k < w.heap.size → k ≠ g → k ≠ gf → w'.heap[k]? = w.heap[k]?
theorem Two.mk2 {w w1 w2 : World} {g gf : Nat} (h1 : w.grownBy w1 (some g)) (s1 : w1.heap.size = w.heap.size) (h2 : w1.grownBy w2 (some gf)) (s2 : w2.heap.size = w1.heap.size) : Two w w2 g gf :=
  ⟨h2.os.trans h1.os, h2.tape.trans h1.tape, h2.output.trans h1.output, s2.trans s1, fun k hk h3 h4 =>
    (h2.block k (by omega) (by simpa using h4)).trans (h1.block k hk (by simpa using h3))⟩
theorem Two.refl (w : World) (g gf : Nat) : Two w w g gf := ⟨rfl, rfl, rfl, rfl, fun _ _ _ _ => rfl⟩
theorem Two.trans {w w1 w2 : World} {g gf : Nat} (h1 : Two w w1 g gf) (h2 : Two w1 w2 g gf) : Two w w2 g gf :=
  ⟨h2.os.trans h1.os, h2.tape.trans h1.tape, h2.output.trans h1.output, h2.size.trans h1.size, fun k hk h3 h4 => (h2.block k (by rw [h1.size]; exact hk) h3 h4).trans (h1.block k hk h3 h4)⟩
theorem Two.below {w0 w w' : World} {B g gf : Nat} (h : Two w w' g gf) (hb : Below B w0 w) (hg : B ≤ g) (hgf : B ≤ gf) : Below B w0 w' :=
  hb.trans ⟨h.os, h.tape, h.output, Nat.le_of_eq h.size.symm, fun k hk => (by
    by_cases hlt : k < w.heap.size
    · exact h.block k hlt (by omega) (by omega)
    · have h1 : ¬ k < w'.heap.size := by rw [h.size]; exact hlt
      simp [Array.getElem?_eq_none (Nat.le_of_not_lt hlt), Array.getElem?_eq_none (Nat.le_of_not_lt h1)])⟩
theorem Two.drew {w w' : World} {g gf : Nat} (h : Two w w' g gf) (n : Nat) : Two w (w'.drewN n) g gf := ⟨h.os, h.tape, h.output, h.size, h.block⟩
set_option maxRecDepth 100000 in
theorem feedRead_end (gf : Nat) (a0 : Option Addr) (c : Nat) (e : Value) (tf : TypeId) (ad : Option Addr) (m cap : Nat) (w : World) (hf : Blk w gf (feedC a0 0 c e) tf) :
    Calls Try.prog 85 #[.pointer (some ⟨gf, 0, none⟩), .slice ad m cap] w fun e' w' => e' = .returned (.tuple #[.int .i64 0, e]) ∧ ∃ n, w' = w.drewN n := by
  have c0 := hf.cell 0
  have c1 := hf.cell 1
  simp only [feedC, List.getElem?_cons_zero, List.getElem?_cons_succ] at c0 c1
  go_enter Try.func85, Try.ntmps85
  go_wp2
  go_quiet (fail)
  go_wp2
  exact ret_tmp2 rfl rfl rfl rfl ⟨rfl, _, rfl⟩
set_option maxRecDepth 100000 in
theorem feedRead_some (gf b o len c k : Nat) (bs : List UInt8) (e : Value) (tf : TypeId) (g off m cap : Nat) (cur : List Value) (t : TypeId) (w : World) (hf : Blk w gf (feedC (some ⟨b, o, none⟩) len c e) tf) (hr : Rd w (some ⟨b, o, none⟩) bs)
    (hl : bs.length = len) (h0 : 0 < len) (hlc : len ≤ c) (hc : c ≤ 9223372036854775807) (hg : Blk w g cur t) (hk : Nat.min len m = k) (hfit : off + k ≤ cur.length) (hgf : g ≠ gf) (hbg : b ≠ g) (hbf : b ≠ gf) :
    Calls Try.prog 85 #[.pointer (some ⟨gf, 0, none⟩), .slice (some ⟨g, off, none⟩) m cap] w fun e' w' => e' = .returned (.tuple #[.int .i64 k, .nilIface]) ∧ Blk w' g (splice cur off (bvs (bs.take k))) t ∧ (∃ a', Blk w' gf (feedC a' (len - k) (c - k) e) tf ∧ Rd w' a' (bs.drop k)) ∧ Two w w' g gf := by
  have hkl : k ≤ len := by rw [← hk]; exact Nat.min_le_left _ _
  have c0 := hf.cell 0
  simp only [feedC, List.getElem?_cons_zero] at c0
  have hne : ((len : Int) == 0) = false := by rw [beq_eq_false_iff_ne]; omega
  have HK := Lib.hid hk
  have HL := Lib.hid hl
  clear hk hl
  by_cases hkc : k < c
  · go_enter Try.func85, Try.ntmps85
    go_wp2_with (refine wp_copy_min rfl rfl Try.underlying22 (by kernel_rfl) rfl rfl hg bs hr HL.out HK.out hfit h0 ?_)
    intro w1 b1 g1 s1
    have f1 := hf.grown g1 (by intro e; have := Option.some.inj e; omega)
    have r1 := hr.grown g1 (by rintro x ⟨⟩ e; first | exact hbg (Option.some.inj e) | exact hbf (Option.some.inj e))
    have S1 := Lib.hid s1
    clear s1 c0
    have c0 := f1.cell 0
    simp only [feedC, List.getElem?_cons_zero] at c0
    go_wp2_with (refine wp_store_cell (i := 0) rfl rfl (by kernel_rfl) rfl rfl rfl f1 (Nat.zero_lt_succ _) ?_)
    intro w2 b2 g2 s2
    have S2 := Lib.hid s2
    clear s2
    have B2 := b1.grown g2 (by intro e; have := Option.some.inj e; omega)
    have r2 := (r1.grown g2 (by rintro x ⟨⟩ e; first | exact hbg (Option.some.inj e) | exact hbf (Option.some.inj e))).tail k (by rw [HL.out]; exact hkl)
    go_wp2
    exact ret_tmp2 rfl rfl rfl rfl ⟨rfl, B2, ⟨_, b2, r2⟩, Two.mk2 g1 S1.out g2 S2.out⟩
  · obtain rfl : k = c := by omega
    obtain rfl : len = k := by omega
    go_enter Try.func85, Try.ntmps85
    go_wp2_with (refine wp_copy_min rfl rfl Try.underlying22 (by kernel_rfl) rfl rfl hg bs hr HL.out HK.out hfit h0 ?_)
    intro w1 b1 g1 s1
    have f1 := hf.grown g1 (by intro e; have := Option.some.inj e; omega)
    have S1 := Lib.hid s1
    clear s1 c0
    have c0 := f1.cell 0
    simp only [feedC, List.getElem?_cons_zero] at c0
    go_wp2_with (refine wp_store_cell (i := 0) rfl rfl (by kernel_rfl) rfl rfl rfl f1 (Nat.zero_lt_succ _) ?_)
    intro w2 b2 g2 s2
    have S2 := Lib.hid s2
    clear s2
    have B2 := b1.grown g2 (by intro e; have := Option.some.inj e; omega)
    have r2 : Hid (bs.drop len = []) := Lib.hid (List.drop_of_length_le (by rw [HL.out]; exact Nat.le_refl _))
    go_wp2
    exact ret_tmp2 rfl rfl rfl rfl ⟨rfl, B2, ⟨_, by rw [Nat.sub_self]; exact b2, by rw [r2.out]; exact Rd.nil _ _⟩, Two.mk2 g1 S1.out g2 S2.out⟩
end Go.Proofs.Ytbnkbgbgdolihaa
