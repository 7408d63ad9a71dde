/- Contract of impl.UlidMonotone: the ULIDs, one behind the other. -/
import Derived.Test.YtcojcohipmoopaaMFn0
namespace Go.Proofs.Ytcojcohipmoopaa
open Go.RowKit
set_option linter.unusedVariables false
set_option linter.unusedSimpArgs false
/-- No slice among them is longer than its room. -/
def CapOk (vals : List Value) : Prop := ∀ (a : Option Addr) (l c : Nat), Value.slice a l c ∈ vals → l ≤ c
theorem CapOk.nil : CapOk [] := fun _ _ _ h => by simp at h
theorem CapOk.snoc {vals : List Value} (h : CapOk vals) {a : Option Addr} {l c : Nat} (hc : l ≤ c) : CapOk (vals ++ [.slice a l c]) := by
  intro a' l' c' hm
  rcases List.mem_append.1 hm with hm | hm
  · exact h a' l' c' hm
  · simp only [List.mem_singleton, Value.slice.injEq] at hm
    obtain ⟨-, rfl, rfl⟩ := hm
    exact hc
/-- A slice of byte slices, read, with their rooms. -/
def RdC (w : World) (a : Option Addr) (ls : List (List UInt8)) : Prop :=
  ls = [] ∨ ∃ b off, a = some ⟨b, off, none⟩ ∧ ∀ i, i < ls.length → ∃ gi ci, w.cell? ⟨b, off + i, none⟩ = some (.slice (some ⟨gi, 0, none⟩) (ls.getD i []).length ci) ∧ (ls.getD i []).length ≤ ci ∧ Rd w (some ⟨gi, 0, none⟩) (ls.getD i [])
theorem Elems.rdC {w : World} {base base' e t : Nat} {v : Value} {vals : List Value} {ls : List (List UInt8)} (ho : w.ownsRow base e 1 v vals.length vals) (h : Elems w base' t vals ls) (hcap : CapOk vals) :
    ∃ a cap, v = .slice a ls.length cap ∧ RdC w a ls := by
  rcases ho.2 with ⟨rfl, hn⟩ | ⟨g, cap, cur, rfl, _, hg, _, _, hs, htake⟩
  · have : ls = [] := List.eq_nil_of_length_eq_zero (by rw [← h.1]; exact hn)
    subst this
    exact ⟨none, 0, rfl, .inl rfl⟩
  · refine ⟨some ⟨g, 0, none⟩, cap, by rw [h.1], .inr ⟨g, 0, rfl, fun i hi => ?_⟩⟩
    obtain ⟨gi, ci, more, h1, _, h3, h4⟩ := h.2 i hi
    refine ⟨gi, ci, ?_, hcap _ _ _ (List.mem_of_getElem? h1), h4.rdMore h3⟩
    rw [cell_of_row w g _ cur e (0, 0) hg, Nat.zero_add, ← h1, ← htake]
    rw [List.getElem?_take, if_pos (by rw [h.1]; omega)]
    simp
theorem RdC.kept {w w' : World} {a : Option Addr} {ls : List (List UInt8)} (h : RdC w a ls) (hb : Below w.heap.size w w') : RdC w' a ls := by
  rcases h with h | ⟨b, off, ha, hc⟩
  · exact .inl h
  · refine .inr ⟨b, off, ha, fun i hi => ?_⟩
    obtain ⟨gi, ci, h1, h2, h3⟩ := hc i hi
    exact ⟨gi, ci, by rw [hb.cell (World.block_lt_of_cell? w _ h1)]; exact h1, h2, h3.kept hb⟩
theorem infoL : (Try.prog.info? 28).map (fun i => (i.zero, i.size, i.bytes)) = some (some (.slice none 0 0), 1, 24) := by kernel_rfl
theorem stArr : Arr Try.prog 37 1 [.int .u32 0] where
  und := ⟨_, Try.underlying37, rfl⟩
  size := by kernel_rfl
  zero := fun w => by kernel_rfl
  len := rfl
theorem zeros8 (b : Nat) : zerosFrom b (List.replicate 8 0) := by
  intro i _
  unfold B
  rw [List.getD_eq_getElem?_getD, List.getElem?_replicate]
  split <;> rfl
theorem getD_in {zs : List Int} {k : Nat} (h : k < zs.length) : zs.getD k 0 ∈ zs := by
  rw [List.getD_eq_getElem?_getD, List.getElem?_eq_getElem h]
  exact List.getElem_mem h
set_option maxRecDepth 100000 in
set_option maxHeartbeats 1000000 in
theorem ulidMonotone_fn (a0 : Option Addr) (zs : List Int) (n c0 seed inc : Nat) (w : World) (h : RdI .u64 w a0 zs) (hn : zs.length = n) (h20 : n ≤ 20) (hz : ∀ z ∈ zs, 0 ≤ z ∧ z < 281474976710656) (hs : seed < 4294967296) (hi0 : 1 ≤ inc) (hi : inc ≤ 1099511627776) :
    Calls Try.prog 4 #[.slice a0 n c0, .int .u32 ((seed : Nat) : Int), .int .u64 ((inc : Nat) : Int)] w fun e w' => ∃ oa oc Es, e = .returned (.tuple #[.slice oa n oc, .int .i64 ((n : Nat) : Int)]) ∧ Es.length = n ∧ follows inc zs Es ∧ (∀ x ∈ Es, x < 1208925819614629174706176) ∧ RdC w' oa (ulids zs Es) ∧ Below w.heap.size w w' := by
  have hb := Below.refl w.heap.size w
  have HN := Lib.hid hn
  have HZ := Lib.hid hz
  have H := Lib.hid h
  clear hn hz h
  go_enter Try.func4, Try.ntmps4
  go_wp2_with (refine wp_box_blk stArr hb rfl rfl (cs := [.int .u32 ((seed : Nat) : Int)]) rfl rfl (Nat.le_refl _) ?_)
  intro w1 b1 g1 s1 hb1
  clear s1
  go_wp2_with (go_at_call 8; refine (monotonic_ok _ inc _ hi0).mono ?_)
  rintro e w2 ⟨gm, rfl, hgm, m2, hb2⟩
  have B2 := b1.kept hb2
  have hne : gm ≠ w.heap.size := by have := b1.lt; omega
  have hgw : w.heap.size ≤ gm := Nat.le_trans hb1.size hgm
  have hbw2 := hb1.trans (hb2.mono hb1.size)
  clear b1 g1 hb1 hb2 hgm
  go_wp2_with fail
  go_loopw [9, 23] (fun v i wr => ∃ k : Nat, k ≤ n ∧ i = .int .i64 k ∧ Below w.heap.size w wr ∧ ∃ (ms E x : Nat) (rnd : List UInt8) (vals : List Value) (Es : List Nat),
      Hid (After inc k ms E zs Es ∧ rnd.length = 8 ∧ zerosFrom (blOf inc) rnd ∧ x < 4294967296) ∧ Blk wr gm (mE w.heap.size ms inc E rnd) 56 ∧ Blk wr w.heap.size [.int .u32 ((x : Nat) : Int)] 37 ∧ wr.ownsRow w.heap.size 28 1 v vals.length vals ∧ Elems wr w.heap.size 39 vals (ulids zs Es) ∧ CapOk vals) (fun _ i _ => n - (intOf i).toNat)
  case atStart =>
    refine ⟨0, Nat.zero_le _, rfl, hbw2.alloc hbw2.size _, 0, 0, seed, List.replicate 8 0, [], [], ⟨⟨rfl, fun i h => absurd h (by simp), fun e h => (by simp at h), .inl ⟨rfl, rfl⟩⟩, rfl, zeros8 _, hs⟩, m2.kept ((Below.refl _ _).alloc (Nat.le_refl _) _), B2.kept ((Below.refl _ _).alloc (Nat.le_refl _) _), World.ownsRow_lit w2 #[] 0 hbw2.size (by unfold maxLen; omega) rfl, Elems.nil _ _ _, CapOk.nil⟩
  case round =>
    clear m2 B2 hbw2
    obtain ⟨k, hk, rfl, hbw, ms, E, x, rnd, vals, Es, HI, hB, hS, hown, hel, hcap⟩ := hrel
    by_cases hlt : k < n
    · have hTk := H.out.kept hbw
      obtain ⟨bt, ot, rfl, hct⟩ := hTk.2.2.resolve_left (by intro h; have := HN.out; simp [h] at this; omega)
      have hc := hct k (by rw [HN.out]; exact hlt)
      have hzz := HZ.out _ (getD_in (k := k) (by rw [HN.out]; exact hlt))
      have hzk : zs.getD k 0 = (((zs.getD k 0).toNat : Nat) : Int) := by omega
      have hm : (zs.getD k 0).toNat < 281474976710656 := by omega
      have hroom := HI.out.1.room (by omega) hi
      have hEl : Es.length = k := HI.out.1.1
      have HM : Hid ((zs.getD k 0).toNat = (zs.getD k 0).toNat) := rfl
      rw [hzk] at hc
      have HST := Lib.hid (fun E' hd => HI.out.1.step (E' := E') (x := x) (by omega) hi HI.out.2.2.2 (fun z hz => (HZ.out z hz).1) (by rw [HN.out]; exact hlt) hd)
      have HUS := Lib.hid (fun E' => ulids_snoc zs Es E')
      rw [hEl] at HUS
      have HVL : Hid (vals.length = k) := by show _ = _; rw [hel.1, ulids_length, hEl]
      clear hct hzk hTk hzz hEl HM
      generalize (zs.getD k 0).toNat = m at *
      go_wp2_with (go_at_call 9; refine (unewM_ok gm _ ms m inc E x rnd _ _ _ hB HI.out.2.1 hS HI.out.2.2.2 hne hi0 hi HI.out.2.2.1 hroom hm).mono ?_)
      rintro e2 w2 ⟨E', x', rnd', rfl, B2, l2, z2, S2, hx2, T2, hd2⟩
      have HI2 : Hid (After inc (k + 1) m E' zs (Es ++ [E']) ∧ rnd'.length = 8 ∧ zerosFrom (blOf inc) rnd' ∧ x' < 4294967296) := ⟨HST.out E' hd2, l2, z2, hx2⟩
      have hU := HUS.out E'
      have hbw2 : Below w.heap.size w w2 := T2.below hbw hbw.size (by intro q hq; simp at hq; rcases hq with rfl | rfl <;> omega)
      have hown2 := own_sets hown T2 (by intro q hq; simp at hq; rcases hq with rfl | rfl; exact own_ne hown hB (by decide); exact own_ne hown hS (by decide))
      have hel2 := hel.sets T2 (by intro q hq; simp at hq; rcases hq with rfl | rfl; exact ⟨_, _, hB, by decide⟩; exact ⟨_, _, hS, by decide⟩)
      clear HST HUS HI l2 z2 hx2 hd2 T2 hown hel hB hS hroom
      have LV := Lib.hid (show (bvs (be 6 m ++ be 10 E')).length = 16 by rw [bvs_length, List.length_append, be_length, be_length])
      have LW := Lib.hid (show (be 6 m ++ be 10 E').length = 16 by rw [List.length_append, be_length, be_length])
      have HU := Lib.hid hU
      clear hU
      go_wp2_with (refine wp_alloc_blk ulArr hbw2 rfl rfl rfl hbw2.size ?_)
      intro w3 b3 g3 s3 hb3
      clear s3
      go_wp2_with (refine wp_store_blk ulArr hb3 rfl rfl rfl rfl b3 hbw2.size rfl LV.out (bvs_one _) ?_)
      intro w4 b4 g4 s4 hb4
      clear s4
      have b24 := (below_grown g3).grown g4 g3.size (by rintro j ⟨⟩; exact Nat.le_refl _)
      have B4 := B2.kept b24
      have S4 := S2.kept b24
      have hown4 := own_kept hown2 b24
      have hel4 := hel2.kept b24
      clear B2 S2 hown2 hel2 b24 g3 g4 b3 hb3 hbw2
      go_wp2_with (first | (refine wp_load_blk ulArr rfl rfl rfl b4 LV.out ?_) | (go_at_call 10; refine (ubytes_ok _ _).mono ?_; rintro e5 w5 ⟨rfl, b5, hb5⟩; have hown5 := own_kept hown4 hb5; have hel5 := hel4.kept hb5) | (at_builtin; refine wp_append_one rfl rfl Try.underlying25 infoL rfl rfl rfl rfl rfl hown5 (by have := HVL.out; omega) (by have := HVL.out; omega) (Nat.le_trans hb4.size hb5.size) ?_))
      intro v' w6 hown6 hg6
      have B6 := (B4.kept hb5).grown hg6 (own_ne hown5 (B4.kept hb5) (by decide))
      have S6 := (S4.kept hb5).grown hg6 (own_ne hown5 (S4.kept hb5) (by decide))
      have hel6 := (hel5.grown hown5 (by decide) hg6).snoc (l := be 6 m ++ be 10 E') (cap := 16) (more := []) hb4.size (by rw [LW.out]; decide) (by rw [List.append_nil]; exact b5.grown hg6 (own_ne hown5 b5 (by decide)))
      rw [LW.out, ← HU.out] at hel6
      have hbw6 := (hb4.trans (hb5.mono hb4.size)).grown hg6 (Nat.le_trans hb4.size hb5.size) (fun j hj => (hown5.lt j hj).1)
      clear hown5 hel5 hel4 hown4 B4 S4 b5 hg6 hb4 hb5 b4
      go_wp2
      go_roundw
      case rel => exact ⟨k + 1, by omega, by go_num, hbw6, m, E', x', rnd', _, _, HI2, B6, S6, by simpa using hown6, hel6, hcap.snoc (Nat.le_refl _)⟩
      case measure => simp [intOf]; omega
    · obtain rfl : k = n := by omega
      have hA := HI.out.1
      have hEl : Es.length = k := hA.1
      obtain ⟨oa, oc, rfl, hR⟩ := hel.rdC hown hcap
      have e0 : (ulids zs Es).length = k := by rw [ulids_length, hEl]
      rw [e0]
      have HA := Lib.hid hA
      have HE := Lib.hid hEl
      clear hA hEl hown hel hB hS e0
      go_wp2
      exact ret_tmp2 rfl rfl rfl rfl ⟨oa, oc, Es, rfl, HE.out, HA.out.2.1, HA.out.2.2.1, hR, hbw⟩
end Go.Proofs.Ytcojcohipmoopaa
