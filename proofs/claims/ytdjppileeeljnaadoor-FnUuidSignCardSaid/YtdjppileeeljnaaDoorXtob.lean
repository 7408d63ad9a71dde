/- What a UUID's text reads as: plain words and laws; xtob over the table that the rows list. -/
import Derived.Test.YtdjppileeeljnaaDoorSpecText
import Derived.Test.YtdjppileeeljnaaDoorFree
import Derived.Lib.LaidTab
namespace Go.Proofs.YtdjppileeeljnaaDoor
open Go.RowKit
set_option linter.unusedVariables false
set_option linter.unusedSimpArgs false

/-- The value of a hexadecimal digit, or 255. -/
def hexV (c : Nat) : Nat := if 48 ≤ c ∧ c ≤ 57 then c - 48 else if 65 ≤ c ∧ c ≤ 70 then c - 55 else if 97 ≤ c ∧ c ≤ 102 then c - 87 else 255
theorem hexV_lt (c : Nat) : hexV c < 256 := by unfold hexV; split; omega; split; omega; split <;> omega
theorem hexV_or (c : Nat) (h : hexV c ≠ 255) : hexV c < 16 := by
  unfold hexV at *
  split
  · omega
  · split
    · omega
    · split
      · omega
      · rename_i h1 h2 h3; rw [if_neg h1, if_neg h2, if_neg h3] at h; exact absurd rfl h
def okH (c : Nat) : Bool := decide (hexV c ≠ 255)
/-- All values, as the table has them. -/
def xvals : List Int := (List.range 256).map fun c => ((hexV c : Nat) : Int)
/-- The table in memory. -/
def XTab (w : World) : Prop := ∀ c, c < 256 → w.cell? ⟨0, c, none⟩ = some (.int .u8 ((hexV c : Nat) : Int))
theorem XTab.kept {w w' : World} (h : XTab w) (hb : Below w.heap.size w w') : XTab w' := fun c hc => by
  have := h c hc
  rw [hb.cell (World.block_lt_of_cell? w _ this)]
  exact this
theorem xtab_of {W : World} (h : Lib.TabIs Tryd.prog W "loop.example/pub-namesbyclock/pub/googleuuid.xvalues" .u8 xvals) : XTab W := fun c hc => by
  rw [h.cell (show Tryd.prog.globalNamed "loop.example/pub-namesbyclock/pub/googleuuid.xvalues" = some 0 by kernel_rfl) c (by simp [xvals]; exact hc)]
  simp [xvals, hc]

/-! What a text reads as. -/
def posU (k : Nat) : Nat := [0, 2, 4, 6, 9, 11, 14, 16, 19, 21, 24, 26, 28, 30, 32, 34].getD k 0
def pairOk (p : List UInt8) (i : Nat) : Bool := okH (B p i) && okH (B p (i + 1))
def pairV (p : List UInt8) (i : Nat) : UInt8 := UInt8.ofNat (16 * hexV (B p i) + hexV (B p (i + 1)))
def dashOk (p : List UInt8) : Bool := B p 8 == 45 && B p 13 == 45 && B p 18 == 45 && B p 23 == 45
def stdOk (p : List UInt8) : Bool := dashOk p && (List.range 16).all fun k => pairOk p (posU k)
def stdB (p : List UInt8) : List UInt8 := (List.range 16).map fun k => pairV p (posU k)
def rawOk (p : List UInt8) : Bool := (List.range 16).all fun k => pairOk p (2 * k)
def rawB (p : List UInt8) : List UInt8 := (List.range 16).map fun k => pairV p (2 * k)
theorem range16 : List.range 16 = [0, 1, 2, 3, 4, 5, 6, 7, 8, 9, 10, 11, 12, 13, 14, 15] := rfl

theorem dig_val : ∀ n, n < 16 → hexV (d16.getD n 0).toNat = n := by decide
def upL (p : List UInt8) : List UInt8 := p.map upB
theorem dig_up : ∀ n, n < 16 → hexV (upB (d16.getD n 0)).toNat = n := by decide
theorem pair_byte (a : UInt8) : UInt8.ofNat (16 * (a.toNat / 16) + a.toNat % 16) = a := by
  rw [Nat.div_add_mod]
  simp
theorem pair_of {p : List UInt8} {i : Nat} {a : UInt8} (h1 : hexV (B p i) = a.toNat / 16) (h2 : hexV (B p (i + 1)) = a.toNat % 16) : pairOk p i = true ∧ pairV p i = a := by
  have ha := a.toNat_lt
  refine ⟨?_, by unfold pairV; rw [h1, h2, pair_byte]⟩
  unfold pairOk okH
  rw [h1, h2]
  simp only [Bool.and_eq_true, decide_eq_true_eq]
  omega
/-- Sixteen bytes one by one. -/
theorem sixteen {x : List UInt8} (hx : x.length = 16) : ∃ a0 a1 a2 a3 a4 a5 a6 a7 a8 a9 a10 a11 a12 a13 a14 a15, x = [a0, a1, a2, a3, a4, a5, a6, a7, a8, a9, a10, a11, a12, a13, a14, a15] := by
  match x, hx with
  | [a0, a1, a2, a3, a4, a5, a6, a7, a8, a9, a10, a11, a12, a13, a14, a15], _ => exact ⟨a0, a1, a2, a3, a4, a5, a6, a7, a8, a9, a10, a11, a12, a13, a14, a15, rfl⟩
theorem hi_val (a : UInt8) : hexV (d16.getD (a.toNat / 16) 0).toNat = a.toNat / 16 := dig_val _ (by have := a.toNat_lt; omega)
theorem lo_val (a : UInt8) : hexV (d16.getD (a.toNat % 16) 0).toNat = a.toNat % 16 := dig_val _ (by omega)
theorem hi_up (a : UInt8) : hexV (upB (d16.getD (a.toNat / 16) 0)).toNat = a.toNat / 16 := dig_up _ (by have := a.toNat_lt; omega)
theorem lo_up (a : UInt8) : hexV (upB (d16.getD (a.toNat % 16) 0)).toNat = a.toNat % 16 := dig_up _ (by omega)
/-- Where each pair has its digits, the text is read as the bytes. -/
theorem std_of {p : List UInt8} {x : List UInt8} (hx : x.length = 16) (hd : dashOk p = true) (h : ∀ k, k < 16 → hexV (B p (posU k)) = B x k / 16 ∧ hexV (B p (posU k + 1)) = B x k % 16) : stdOk p = true ∧ stdB p = x := by
  have hp : ∀ k, k < 16 → pairOk p (posU k) = true ∧ pairV p (posU k) = x.getD k 0 := fun k hk => pair_of (h k hk).1 (h k hk).2
  refine ⟨?_, ?_⟩
  · unfold stdOk
    rw [hd, Bool.true_and, List.all_eq_true]
    exact fun k hk => (hp k (List.mem_range.1 hk)).1
  · apply List.ext_getElem
    · simp [stdB, hx]
    · intro k h1 h2
      have := (hp k (by omega)).2
      simp [stdB, this, show k < x.length by omega]
theorem raw_of {p : List UInt8} {x : List UInt8} (hx : x.length = 16) (h : ∀ k, k < 16 → hexV (B p (2 * k)) = B x k / 16 ∧ hexV (B p (2 * k + 1)) = B x k % 16) : rawOk p = true ∧ rawB p = x := by
  have hp : ∀ k, k < 16 → pairOk p (2 * k) = true ∧ pairV p (2 * k) = x.getD k 0 := fun k hk => pair_of (h k hk).1 (h k hk).2
  refine ⟨?_, ?_⟩
  · unfold rawOk
    rw [List.all_eq_true]
    exact fun k hk => (hp k (List.mem_range.1 hk)).1
  · apply List.ext_getElem
    · simp [rawB, hx]
    · intro k h1 h2
      have := (hp k (by omega)).2
      simp [rawB, this, show k < x.length by omega]
theorem lt16 {P : Nat → Prop} (h : P 0 ∧ P 1 ∧ P 2 ∧ P 3 ∧ P 4 ∧ P 5 ∧ P 6 ∧ P 7 ∧ P 8 ∧ P 9 ∧ P 10 ∧ P 11 ∧ P 12 ∧ P 13 ∧ P 14 ∧ P 15) : ∀ k, k < 16 → P k := by
  obtain ⟨h0, h1, h2, h3, h4, h5, h6, h7, h8, h9, h10, h11, h12, h13, h14, h15⟩ := h
  intro k hk
  have : k = 0 ∨ k = 1 ∨ k = 2 ∨ k = 3 ∨ k = 4 ∨ k = 5 ∨ k = 6 ∨ k = 7 ∨ k = 8 ∨ k = 9 ∨ k = 10 ∨ k = 11 ∨ k = 12 ∨ k = 13 ∨ k = 14 ∨ k = 15 := by omega
  rcases this with rfl | rfl | rfl | rfl | rfl | rfl | rfl | rfl | rfl | rfl | rfl | rfl | rfl | rfl | rfl | rfl
  · exact h0
  · exact h1
  · exact h2
  · exact h3
  · exact h4
  · exact h5
  · exact h6
  · exact h7
  · exact h8
  · exact h9
  · exact h10
  · exact h11
  · exact h12
  · exact h13
  · exact h14
  · exact h15
theorem std_text {x : List UInt8} (hx : x.length = 16) : stdOk (utext x) = true ∧ stdB (utext x) = x := by
  obtain ⟨a0, a1, a2, a3, a4, a5, a6, a7, a8, a9, a10, a11, a12, a13, a14, a15, rfl⟩ := sixteen hx
  refine std_of rfl rfl (lt16 ⟨?_, ?_, ?_, ?_, ?_, ?_, ?_, ?_, ?_, ?_, ?_, ?_, ?_, ?_, ?_, ?_⟩) <;> exact ⟨hi_val _, lo_val _⟩
theorem std_upper {x : List UInt8} (hx : x.length = 16) : stdOk (upL (utext x)) = true ∧ stdB (upL (utext x)) = x := by
  obtain ⟨a0, a1, a2, a3, a4, a5, a6, a7, a8, a9, a10, a11, a12, a13, a14, a15, rfl⟩ := sixteen hx
  refine std_of rfl rfl (lt16 ⟨?_, ?_, ?_, ?_, ?_, ?_, ?_, ?_, ?_, ?_, ?_, ?_, ?_, ?_, ?_, ?_⟩) <;> exact ⟨hi_up _, lo_up _⟩
theorem raw_text {x : List UInt8} (hx : x.length = 16) : rawOk (hexL x) = true ∧ rawB (hexL x) = x := by
  refine raw_of hx fun k hk => ?_
  obtain ⟨h1, h2⟩ := hexL_get x k (by omega)
  rw [h1, h2]
  exact ⟨dig_val _ (by have := B_lt x k; omega), dig_val _ (by omega)⟩
theorem utext_len (x : List UInt8) (hx : x.length = 16) : (utext x).length = 36 := by
  obtain ⟨a0, a1, a2, a3, a4, a5, a6, a7, a8, a9, a10, a11, a12, a13, a14, a15, rfl⟩ := sixteen hx
  rfl

/-! Another sign in the place of one. -/
theorem B_set (p : List UInt8) (i j : Nat) (c : UInt8) (hi : i < p.length) : B (p.set i c) j = if i = j then c.toNat else B p j := by
  unfold B
  rw [List.getD_eq_getElem?_getD, List.getD_eq_getElem?_getD, List.getElem?_set]
  split
  · rename_i h; subst h; simp [hi]
  · rfl
theorem std_parts (p : List UInt8) : stdOk p = (B p 8 == 45 && B p 13 == 45 && B p 18 == 45 && B p 23 == 45 && (okH (B p 0) && okH (B p 1) && (okH (B p 2) && okH (B p 3) && (okH (B p 4) && okH (B p 5) && (okH (B p 6) && okH (B p 7) && (okH (B p 9) && okH (B p 10) && (okH (B p 11) && okH (B p 12) && (okH (B p 14) && okH (B p 15) && (okH (B p 16) && okH (B p 17) && (okH (B p 19) && okH (B p 20) && (okH (B p 21) && okH (B p 22) && (okH (B p 24) && okH (B p 25) && (okH (B p 26) && okH (B p 27) && (okH (B p 28) && okH (B p 29) && (okH (B p 30) && okH (B p 31) && (okH (B p 32) && okH (B p 33) && (okH (B p 34) && okH (B p 35) && true))))))))))))))))) := rfl
theorem lt36 {P : Nat → Prop} (h : ∀ k, k < 16 → P k) (h' : ∀ k, k < 16 → P (16 + k)) (h'' : P 32 ∧ P 33 ∧ P 34 ∧ P 35) : ∀ k, k < 36 → P k := by
  intro k hk
  by_cases h1 : k < 16
  · exact h k h1
  · by_cases h2 : k < 32
    · have := h' (k - 16) (by omega)
      rwa [show 16 + (k - 16) = k by omega] at this
    · have : k = 32 ∨ k = 33 ∨ k = 34 ∨ k = 35 := by omega
      rcases this with rfl | rfl | rfl | rfl
      · exact h''.1
      · exact h''.2.1
      · exact h''.2.2.1
      · exact h''.2.2.2
def isDash (i : Nat) : Bool := i == 8 || i == 13 || i == 18 || i == 23
theorem std_set {p : List UInt8} (hl : p.length = 36) (hp : stdOk p = true) (c : UInt8) : ∀ i, i < 36 → stdOk (p.set i c) = if isDash i then c == 45 else okH c.toNat := by
  rw [std_parts] at hp
  simp only [Bool.and_eq_true, beq_iff_eq, and_true] at hp
  obtain ⟨⟨⟨⟨e8, e13⟩, e18⟩, e23⟩, ⟨e0, e1⟩, ⟨e2, e3⟩, ⟨e4, e5⟩, ⟨e6, e7⟩, ⟨e9, e10⟩, ⟨e11, e12⟩, ⟨e14, e15⟩, ⟨e16, e17⟩, ⟨e19, e20⟩, ⟨e21, e22⟩, ⟨e24, e25⟩, ⟨e26, e27⟩, ⟨e28, e29⟩, ⟨e30, e31⟩, ⟨e32, e33⟩, ⟨e34, e35⟩⟩ := hp
  have hb : ∀ j, B p j = B p j := fun _ => rfl
  have key : ∀ i, i < 36 → stdOk (p.set i c) = if isDash i then c.toNat == 45 else okH c.toNat := by
    refine lt36 (lt16 ?_) (lt16 ?_) ?_ <;> (repeat' apply And.intro) <;> (rw [std_parts]; simp [B_set, hl, e0, e1, e2, e3, e4, e5, e6, e7, e8, e9, e10, e11, e12, e13, e14, e15, e16, e17, e18, e19, e20, e21, e22, e23, e24, e25, e26, e27, e28, e29, e30, e31, e32, e33, e34, e35, isDash])
  intro i hi
  rw [key i hi]
  split
  · rw [Bool.eq_iff_iff, beq_iff_eq, beq_iff_eq]
    exact ⟨fun h => UInt8.toNat_inj.1 h, fun h => by rw [h]; rfl⟩
  · rfl
end Go.Proofs.YtdjppileeeljnaaDoor
