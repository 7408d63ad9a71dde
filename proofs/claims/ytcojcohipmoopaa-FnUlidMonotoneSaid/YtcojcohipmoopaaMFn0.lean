/- Plain: what a first reading of ten bytes can be; rows that stay where other cells are set. -/
import Derived.Test.YtcojcohipmoopaaMRow
namespace Go.Proofs.Ytcojcohipmoopaa
open Go.RowKit
set_option linter.unusedVariables false
set_option linter.unusedSimpArgs false
theorem num5 : ∀ (y : List UInt8), y.length = 5 → num y = B y 0 * 4294967296 + B y 1 * 16777216 + B y 2 * 65536 + B y 3 * 256 + B y 4
  | [a, b, c, d, e], _ => by
    simp [num, B]
    omega
theorem read_range (x : Nat) (hx : x < 4294967296) : num (sb 10 x) ≠ 0 ∧ num (sb 10 x) + 20890720927744 < 1208925819614629174706176 := by
  have ha := num_append ((sb 10 x).take 5) ((sb 10 x).drop 5)
  rw [List.take_append_drop, List.length_drop, sb_length, show (256 ^ (10 - 5) : Nat) = 1099511627776 from rfl] at ha
  have hd : num ((sb 10 x).drop 5) < 1099511627776 := by
    have := num_lt ((sb 10 x).drop 5)
    rw [List.length_drop, sb_length] at this
    exact this
  have h5 := num5 ((sb 10 x).take 5) (by rw [List.length_take, sb_length]; rfl)
  have hb : ∀ i, i < 5 → B ((sb 10 x).take 5) i = itL (i + 1) x / 16777216 := fun i hi => by rw [B_take, if_pos hi, B_sb 10 x i hx (by omega)]
  rw [hb 0 (by decide), hb 1 (by decide), hb 2 (by decide), hb 3 (by decide), hb 4 (by decide)] at h5
  have e1 := itL_next 1 x
  have e2 := itL_next 2 x
  have e3 := itL_next 3 x
  have e4 := itL_next 4 x
  have hy := itL_lt 1 x hx
  have hz := no_zeros (itL 1 x)
  have hn := no_ones (itL 1 x) hy
  unfold zeros at hz
  unfold ones at hn
  rw [← e1, ← e2, ← e3, ← e4] at hz hn
  have l1 := itL_lt (1 + 1) x hx
  have l2 := itL_lt (2 + 1) x hx
  have l3 := itL_lt (3 + 1) x hx
  have l4 := itL_lt (4 + 1) x hx
  simp only [Bool.and_eq_false_iff, decide_eq_false_iff_not] at hz hn
  rw [show 0 + 1 = 1 from rfl] at h5
  clear e1 e2 e3 e4 hb
  generalize itL 1 x = y0 at *
  generalize itL (1 + 1) x = y1 at *
  generalize itL (2 + 1) x = y2 at *
  generalize itL (3 + 1) x = y3 at *
  generalize itL (4 + 1) x = y4 at *
  generalize num ((sb 10 x).take 5) = n5 at *
  generalize num ((sb 10 x).drop 5) = nd at *
  generalize num (sb 10 x) = nn at *
  omega
theorem own_sets {w w' : World} {base e size : Nat} {v : Value} {n : Nat} {xs : List Value} {S : List Nat} (h : w.ownsRow base e size v n xs) (hs : Sets w w' S) (hn : ∀ k ∈ S, some k ≠ v.ownBlock) : w'.ownsRow base e size v n xs := by
  refine ⟨h.1, ?_⟩
  rcases h.2 with h0 | ⟨g, cap, cur, rfl, h1, h2, h3⟩
  · exact .inl h0
  · refine .inr ⟨g, cap, cur, rfl, h1, ?_, h3⟩
    have hg : g < w.heap.size := (Array.getElem?_eq_some_iff.1 h2).1
    rw [hs.block g hg (fun hm => hn g hm rfl)]
    exact h2
theorem Elems.sets {w w' : World} {base t : Nat} {vals : List Value} {ls : List (List UInt8)} {S : List Nat} (h : Elems w base t vals ls) (hs : Sets w w' S) (hn : ∀ k ∈ S, ∃ (cs : List Value) (t' : TypeId), Blk w k cs t' ∧ t' ≠ t) : Elems w' base t vals ls :=
  ⟨h.1, fun i hi => let ⟨g, cap, more, hv, hg, hl, hB⟩ := h.2 i hi; ⟨g, cap, more, hv, hg, hl, hB.sets hs (fun hm => by
    obtain ⟨cs, t', hb, ht⟩ := hn g hm
    unfold Blk at hB hb
    rw [hB] at hb
    simp only [Option.some.injEq, Obj.cells.injEq] at hb
    exact ht hb.2.1.symm)⟩⟩
theorem RdI.sets {k : IntKind} {w w' : World} {a : Option Addr} {zs : List Int} {S : List Nat} (h : RdI k w a zs) (hs : Sets w w' S) (hn : ∀ q, a = some q → q.block ∉ S) : RdI k w' a zs := by
  refine ⟨h.1, h.2.1, ?_⟩
  rcases h.2.2 with h0 | ⟨b, off, ha, hc⟩
  · exact .inl h0
  · refine .inr ⟨b, off, ha, fun i hi => ?_⟩
    have hci := hc i hi
    have hlt := World.block_lt_of_cell? w _ hci
    rw [← hci]
    unfold World.cell?
    rw [hs.block b hlt (hn _ ha)]
/-- How the numbers of the entries follow one another. -/
def follows (inc : Nat) (zs : List Int) (Es : List Nat) : Prop := ∀ i, i + 1 < Es.length → zs.getD (i + 1) 0 = zs.getD i 0 → Es.getD i 0 + 1 ≤ Es.getD (i + 1) 0 ∧ Es.getD (i + 1) 0 ≤ Es.getD i 0 + inc
def ulids (zs : List Int) (Es : List Nat) : List (List UInt8) := (List.range Es.length).map fun i => be 6 (zs.getD i 0).toNat ++ be 10 (Es.getD i 0)
theorem follows_snoc {inc : Nat} {zs : List Int} {Es : List Nat} {E : Nat} (h : follows inc zs Es) (hE : ∀ k, Es.length = k + 1 → zs.getD (k + 1) 0 = zs.getD k 0 → Es.getD k 0 + 1 ≤ E ∧ E ≤ Es.getD k 0 + inc) : follows inc zs (Es ++ [E]) := by
  intro i hi hz
  rw [List.length_append, List.length_singleton] at hi
  have e1 : (Es ++ [E]).getD i 0 = Es.getD i 0 := by rw [List.getD_eq_getElem?_getD, List.getD_eq_getElem?_getD, List.getElem?_append_left (by omega)]
  rw [e1]
  by_cases hlt : i + 1 < Es.length
  · have e2 : (Es ++ [E]).getD (i + 1) 0 = Es.getD (i + 1) 0 := by rw [List.getD_eq_getElem?_getD, List.getD_eq_getElem?_getD, List.getElem?_append_left hlt]
    rw [e2]
    exact h i hlt hz
  · have hl : Es.length = i + 1 := by omega
    have e2 : (Es ++ [E]).getD (i + 1) 0 = E := by rw [List.getD_eq_getElem?_getD, List.getElem?_append_right (by omega), hl, Nat.sub_self]; rfl
    rw [e2]
    exact hE i hl hz
theorem ulids_length (zs : List Int) (Es : List Nat) : (ulids zs Es).length = Es.length := by simp [ulids]
theorem ulids_snoc (zs : List Int) (Es : List Nat) (E : Nat) : ulids zs (Es ++ [E]) = ulids zs Es ++ [be 6 (zs.getD Es.length 0).toNat ++ be 10 E] := by
  unfold ulids
  rw [List.length_append, List.length_singleton, List.range_succ, List.map_append, List.map_singleton]
  congr 1
  · refine List.map_congr_left fun i hi => ?_
    rw [List.mem_range] at hi
    rw [List.getD_eq_getElem?_getD (l := Es ++ [E]), List.getElem?_append_left hi, ← List.getD_eq_getElem?_getD]
  · rw [List.getD_eq_getElem?_getD (l := Es ++ [E]), List.getElem?_append_right (by omega), Nat.sub_self]
    rfl
theorem ulids_at (zs : List Int) (Es : List Nat) (i : Nat) (h : i < Es.length) : (ulids zs Es).getD i [] = be 6 (zs.getD i 0).toNat ++ be 10 (Es.getD i 0) := by
  unfold ulids
  rw [List.getD_eq_getElem?_getD, List.getElem?_map, List.getElem?_range h]
  rfl
/-- After k entries, the entropy's own number: its last one's time, and room for all that come. -/
def After (inc k ms E : Nat) (zs : List Int) (Es : List Nat) : Prop :=
  Es.length = k ∧ follows inc zs Es ∧ (∀ e ∈ Es, e < 1208925819614629174706176) ∧ ((k = 0 ∧ E = 0) ∨ ∃ j, k = j + 1 ∧ E = Es.getD j 0 ∧ E ≠ 0 ∧ ms = (zs.getD j 0).toNat ∧ E + (20 - k) * 1099511627776 < 1208925819614629174706176)
theorem After.room {inc k ms E : Nat} {zs : List Int} {Es : List Nat} (h : After inc k ms E zs Es) (hk : k < 20) (hi : inc ≤ 1099511627776) : E + inc < 1208925819614629174706176 := by
  rcases h.2.2.2 with ⟨_, rfl⟩ | ⟨j, _, _, _, _, hr⟩
  · omega
  · omega
theorem After.step {inc k ms E E' x : Nat} {zs : List Int} {Es : List Nat} (h : After inc k ms E zs Es) (hk : k < 20) (hi : inc ≤ 1099511627776) (hx : x < 4294967296) (hpos : ∀ z ∈ zs, 0 ≤ z) (hkz : k < zs.length)
    (hd : (E ≠ 0 ∧ ms = (zs.getD k 0).toNat ∧ E + 1 ≤ E' ∧ E' ≤ E + inc) ∨ (¬ (E ≠ 0 ∧ ms = (zs.getD k 0).toNat) ∧ E' = num (sb 10 x))) : After inc (k + 1) (zs.getD k 0).toNat E' zs (Es ++ [E']) := by
  obtain ⟨hl, hf, hlt, hs⟩ := h
  have hr := read_range x hx
  have hE' : E' ≠ 0 ∧ E' + (20 - (k + 1)) * 1099511627776 < 1208925819614629174706176 := by
    rcases hd with ⟨h1, h2, h3, h4⟩ | ⟨h1, rfl⟩
    · rcases hs with ⟨_, rfl⟩ | ⟨j, _, _, _, _, hr2⟩
      · omega
      · omega
    · generalize num (sb 10 x) = q at *
      refine ⟨hr.1, ?_⟩
      omega
  refine ⟨by rw [List.length_append, hl]; rfl, follows_snoc hf ?_, ?_, .inr ⟨k, rfl, ?_, hE'.1, rfl, hE'.2⟩⟩
  · intro j hj hz
    rcases hs with ⟨h0, _⟩ | ⟨j', hj', he, hne, hms, _⟩
    · omega
    · obtain rfl : j' = j := by omega
      rw [← he]
      rcases hd with ⟨h1, h2, h3, h4⟩ | ⟨h1, _⟩
      · exact ⟨h3, h4⟩
      · exact absurd ⟨hne, by rw [hms, hj', hz]⟩ h1
  · intro e he
    rcases List.mem_append.1 he with he | he
    · exact hlt e he
    · rw [List.mem_singleton.1 he]; omega
  · rw [List.getD_eq_getElem?_getD, List.getElem?_append_right (by omega), hl, Nat.sub_self]
    rfl
end Go.Proofs.Ytcojcohipmoopaa
