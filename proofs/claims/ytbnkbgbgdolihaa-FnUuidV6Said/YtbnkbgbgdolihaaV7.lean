/- Contracts: a UUID of version 7. -/
import Derived.Test.YtbnkbgbgdolihaaClock
namespace Go.Proofs.Ytbnkbgbgdolihaa
open Go.RowKit
set_option linter.unusedVariables false
theorem wp_store_b {P : Program} {ops : Array Oper} {rest : List Oper} {o : Oper} {a : Act} {w : World} {Q : Exit → Act → World → Prop} (hgd : o.guard = none) {ty : TypeId} {x y : Operand} (ho : o.op = .store ty x y) (hs : (P.info? ty).map (·.size) = some 1)
    {g i : Nat} (hx : a.eval x = .pointer (some ⟨g, i, none⟩)) {E : Int} (hy : a.eval y = .int .u8 E) (m : Nat) (hE : E = (m : Int)) {cs : List Value} {t : TypeId} (hg : Blk w g cs t) (hi : i < cs.length)
    (h : ∀ w', Blk w' g (cs.set i (.int .u8 m)) t → w.grownBy w' (some g) → w'.heap.size = w.heap.size → wpList P ops Q rest (a.put o.dst undef) w') : wpList P ops Q (o :: rest) a w := by
  subst hE
  exact wp_store_cell hgd ho hs hx hy rfl hg hi h
/-- The first eight bytes of a UUID of version 7. -/
def v7Head (m s : Nat) : List UInt8 := be 6 m ++ [UInt8.ofNat (112 + s / 256), UInt8.ofNat s]
theorem v7Head_length (m s : Nat) : (v7Head m s).length = 8 := by simp [v7Head, be_length]
theorem v7Head_B (m s k : Nat) (h : k < 6) : B (v7Head m s) k = B (be 6 m) k := by
  unfold B v7Head
  rw [List.getD_eq_getElem?_getD, List.getD_eq_getElem?_getD, List.getElem?_append_left (by rw [be_length]; exact h)]
theorem v7Head_6 (m s : Nat) (h : s < 4096) : B (v7Head m s) 6 = 112 + s / 256 := by
  unfold B v7Head
  rw [List.getD_eq_getElem?_getD, List.getElem?_append_right (by rw [be_length]; exact Nat.le_refl _), be_length]
  simp
  omega
theorem v7Head_7 (m s : Nat) : B (v7Head m s) 7 = s % 256 := by
  unfold B v7Head
  rw [List.getD_eq_getElem?_getD, List.getElem?_append_right (by rw [be_length]; decide), be_length]
  simp
set_option maxRecDepth 100000 in
set_option maxHeartbeats 1600000 in
theorem makeV7_ok (gu gk t lt cs l7 : Nat) (r n y : List UInt8) (tC tU : TypeId) (w : World) (hg : Blk w gk (clockC t r n lt cs l7) tC) (hu : Blk w gu (bvs y) tU) (hne : gu ≠ gk) (hy : y.length = 16) (hr : r.length = 2) (hn : n.length = 6) (ht : t ≤ 4102444800000000000) (hl : l7 ≤ 1000000000000000000) :
    Calls Try.prog 53 #[.pointer (some ⟨gk, 0, none⟩), .slice (some ⟨gu, 0, none⟩) 16 16] w fun e w' => e = .returned (.tuple #[]) ∧ Blk w' gu (bvs (v7Head (next7 l7 t / 4096) (next7 l7 t % 4096) ++ y.drop 8)) tU ∧ Blk w' gk (clockC t r n lt cs (next7 l7 t)) tC ∧ Two w w' gk gu := by
  have hv7 := getV7_ok gk t lt cs l7 r n tC w hg hr hn ht hl
  have hmb : next7 l7 t / 4096 < 281474976710656 := by
    have := now7_le t ht
    unfold next7
    split <;> omega
  have hsb : next7 l7 t % 4096 < 4096 := Nat.mod_lt _ (by decide)
  generalize next7 l7 t = N at *
  generalize N / 4096 = m at *
  generalize N % 4096 = s at *
  have LT := v7Head_length m s
  have hl' : ∀ k, k ≤ 8 → (splice (bvs y) 0 ((bvs (v7Head m s)).take k)).length = 16 := by
    intro k hk
    rw [length_splice _ _ _ (by rw [List.length_take, bvs_length, bvs_length, LT, hy]; omega), bvs_length, hy]
  have hsn : ∀ k, k < 8 → (splice (bvs y) 0 ((bvs (v7Head m s)).take k)).set k (.int .u8 (B (v7Head m s) k)) = splice (bvs y) 0 ((bvs (v7Head m s)).take (k + 1)) := by
    intro k hk
    have := splice_snoc (bvs y) (bvs (v7Head m s)) 0 k _ (bvs_get (v7Head m s) k (by rw [LT]; exact hk)) (by rw [bvs_length, bvs_length, LT, hy]; omega)
    rwa [Nat.zero_add] at this
  have hend : splice (bvs y) 0 ((bvs (v7Head m s)).take 8) = bvs (v7Head m s ++ y.drop 8) := by
    rw [List.take_of_length_le (by rw [bvs_length, LT]; exact Nat.le_refl _), splice, List.take_zero, List.nil_append, Nat.zero_add, bvs_length, LT, bvs_append]
    congr 1
    simp [bvs]
  have hcell : w.cell? ⟨gu, 15, none⟩ = some (.int .u8 (B y 15)) := by rw [hu.cell, bvs_get y 15 (by rw [hy]; decide)]
  have hfr := hu.free 15
  have v0 : Hid (B (v7Head m s) 0 = m / 1099511627776 % 256) := Lib.hid ((v7Head_B m s 0 (by decide)).trans (B_be 6 m 0 (by decide)))
  have v1 : Hid (B (v7Head m s) 1 = m / 4294967296 % 256) := Lib.hid ((v7Head_B m s 1 (by decide)).trans (B_be 6 m 1 (by decide)))
  have v2 : Hid (B (v7Head m s) 2 = m / 16777216 % 256) := Lib.hid ((v7Head_B m s 2 (by decide)).trans (B_be 6 m 2 (by decide)))
  have v3 : Hid (B (v7Head m s) 3 = m / 65536 % 256) := Lib.hid ((v7Head_B m s 3 (by decide)).trans (B_be 6 m 3 (by decide)))
  have v4 : Hid (B (v7Head m s) 4 = m / 256 % 256) := Lib.hid ((v7Head_B m s 4 (by decide)).trans (B_be 6 m 4 (by decide)))
  have v5 : Hid (B (v7Head m s) 5 = m / 1 % 256) := Lib.hid ((v7Head_B m s 5 (by decide)).trans (B_be 6 m 5 (by decide)))
  have v6 : Hid (B (v7Head m s) 6 = 112 + s / 256) := Lib.hid (v7Head_6 m s hsb)
  have v7 : Hid (B (v7Head m s) 7 = s % 256) := Lib.hid (v7Head_7 m s)
  have HL := Lib.hid hl'
  have HS := Lib.hid hsn
  have HE := Lib.hid hend
  have HV7 := Lib.hid hv7
  obtain ⟨q6, hq6⟩ : ∃ q, s / 256 = q := ⟨_, rfl⟩
  have hq16 : q6 < 16 := by omega
  rw [hq6] at v6
  have E6 : (s : Int) / 256 = (q6 : Int) := by omega
  have F1 : bits .and .u8 15 (q6 : Int) = (q6 : Int) := by
    have := u8_and_nat 15 q6 (by decide) (by omega)
    rw [Nat.and_comm, show q6 &&& 15 = q6 % 16 from Nat.and_two_pow_sub_one_eq_mod _ 4, Nat.mod_eq_of_lt hq16] at this
    exact this
  have F2 : bits .or .u8 112 (q6 : Int) = 112 + (q6 : Int) := by
    have := u8_or_nat 112 q6 (by decide) (by omega)
    rw [nat_join 4 112 q6 (by decide) (by omega)] at this
    rw [show (112 : Int) + (q6 : Int) = ((112 + q6 : Nat) : Int) by simp]
    exact this
  have hdu : Blk w gu (splice (bvs y) 0 ((bvs (v7Head m s)).take 0)) tU := hu
  clear hq6 hl' hsn hend hv7 hl hu LT
  go_enter Try.func53, Try.ntmps53
  go_wp2_with (go_at_call 62; refine HV7.out.mono ?_)
  rintro e w0 ⟨rfl, k0, gk0, sk0⟩
  have SK := Lib.hid sk0
  have d0 := hdu.grown gk0 (by intro e; exact hne (Option.some.inj e))
  have G0 : w0.grownBy w0 (some gu) := World.grownBy.refl _ _
  clear sk0 hcell hfr
  go_wp2_with (refine wp_store_b rfl rfl (by kernel_rfl) rfl rfl (B (v7Head m s) 0) (by have := v0.out; omega) d0 (by rw [HL.out 0 (by decide)]; decide) ?_)
  intro w1 D g1 s1
  have d1 : Blk w1 gu (splice (bvs y) 0 ((bvs (v7Head m s)).take 1)) tU := by rw [← HS.out 0 (by decide)]; exact D
  have k1 := k0.grown g1 (by intro e; exact hne (Option.some.inj e).symm)
  have G1 := grown_trans G0 g1
  have S1 : Hid (w1.heap.size = w0.heap.size) := Lib.hid s1
  clear D s1 g1 d0 k0 G0 v0
  go_wp2_with (refine wp_store_b rfl rfl (by kernel_rfl) rfl rfl (B (v7Head m s) 1) (by have := v1.out; omega) d1 (by rw [HL.out 1 (by decide)]; decide) ?_)
  intro w2 D g2 s2
  have d2 : Blk w2 gu (splice (bvs y) 0 ((bvs (v7Head m s)).take 2)) tU := by rw [← HS.out 1 (by decide)]; exact D
  have k2 := k1.grown g2 (by intro e; exact hne (Option.some.inj e).symm)
  have G2 := grown_trans G1 g2
  have S2 : Hid (w2.heap.size = w0.heap.size) := Lib.hid (s2.trans S1.out)
  clear D s2 g2 d1 k1 G1 v1 S1
  go_wp2_with (refine wp_store_b rfl rfl (by kernel_rfl) rfl rfl (B (v7Head m s) 2) (by have := v2.out; omega) d2 (by rw [HL.out 2 (by decide)]; decide) ?_)
  intro w3 D g3 s3
  have d3 : Blk w3 gu (splice (bvs y) 0 ((bvs (v7Head m s)).take 3)) tU := by rw [← HS.out 2 (by decide)]; exact D
  have k3 := k2.grown g3 (by intro e; exact hne (Option.some.inj e).symm)
  have G3 := grown_trans G2 g3
  have S3 : Hid (w3.heap.size = w0.heap.size) := Lib.hid (s3.trans S2.out)
  clear D s3 g3 d2 k2 G2 v2 S2
  go_wp2_with (refine wp_store_b rfl rfl (by kernel_rfl) rfl rfl (B (v7Head m s) 3) (by have := v3.out; omega) d3 (by rw [HL.out 3 (by decide)]; decide) ?_)
  intro w4 D g4 s4
  have d4 : Blk w4 gu (splice (bvs y) 0 ((bvs (v7Head m s)).take 4)) tU := by rw [← HS.out 3 (by decide)]; exact D
  have k4 := k3.grown g4 (by intro e; exact hne (Option.some.inj e).symm)
  have G4 := grown_trans G3 g4
  have S4 : Hid (w4.heap.size = w0.heap.size) := Lib.hid (s4.trans S3.out)
  clear D s4 g4 d3 k3 G3 v3 S3
  go_wp2_with (refine wp_store_b rfl rfl (by kernel_rfl) rfl rfl (B (v7Head m s) 4) (by have := v4.out; omega) d4 (by rw [HL.out 4 (by decide)]; decide) ?_)
  intro w5 D g5 s5
  have d5 : Blk w5 gu (splice (bvs y) 0 ((bvs (v7Head m s)).take 5)) tU := by rw [← HS.out 4 (by decide)]; exact D
  have k5 := k4.grown g5 (by intro e; exact hne (Option.some.inj e).symm)
  have G5 := grown_trans G4 g5
  have S5 : Hid (w5.heap.size = w0.heap.size) := Lib.hid (s5.trans S4.out)
  clear D s5 g5 d4 k4 G4 v4 S4
  go_wp2_with (refine wp_store_b rfl rfl (by kernel_rfl) rfl rfl (B (v7Head m s) 5) (by have := v5.out; omega) d5 (by rw [HL.out 5 (by decide)]; decide) ?_)
  intro w6 D g6 s6
  have d6 : Blk w6 gu (splice (bvs y) 0 ((bvs (v7Head m s)).take 6)) tU := by rw [← HS.out 5 (by decide)]; exact D
  have k6 := k5.grown g6 (by intro e; exact hne (Option.some.inj e).symm)
  have G6 := grown_trans G5 g6
  have S6 : Hid (w6.heap.size = w0.heap.size) := Lib.hid (s6.trans S5.out)
  clear D s6 g6 d5 k5 G5 v5 S5
  go_wp2_with (refine wp_store_b rfl rfl (by kernel_rfl) rfl rfl (B (v7Head m s) 6) (by have := v6.out; omega) d6 (by rw [HL.out 6 (by decide)]; decide) ?_)
  intro w7 D g7 s7
  have d7 : Blk w7 gu (splice (bvs y) 0 ((bvs (v7Head m s)).take 7)) tU := by rw [← HS.out 6 (by decide)]; exact D
  have k7 := k6.grown g7 (by intro e; exact hne (Option.some.inj e).symm)
  have G7 := grown_trans G6 g7
  have S7 : Hid (w7.heap.size = w0.heap.size) := Lib.hid (s7.trans S6.out)
  clear D s7 g7 d6 k6 G6 v6 S6
  go_wp2_with (refine wp_store_b rfl rfl (by kernel_rfl) rfl rfl (B (v7Head m s) 7) (by have := v7.out; omega) d7 (by rw [HL.out 7 (by decide)]; decide) ?_)
  intro w8 D g8 s8
  have d8 : Blk w8 gu (splice (bvs y) 0 ((bvs (v7Head m s)).take 8)) tU := by rw [← HS.out 7 (by decide)]; exact D
  have k8 := k7.grown g8 (by intro e; exact hne (Option.some.inj e).symm)
  have G8 := grown_trans G7 g8
  have S8 : Hid (w8.heap.size = w0.heap.size) := Lib.hid (s8.trans S7.out)
  clear D s8 g8 d7 k7 G7 v7 S7
  rw [HE.out] at d8
  go_wp2
  go_end0
  exact ⟨rfl, d8, k8, Two.mk2 gk0 SK.out G8 S8.out⟩
/-- The bytes of a UUID of version 7. -/
def v7L (x : List UInt8) (N : Nat) : List UInt8 := v7Head (N / 4096) (N % 4096) ++ (formL x 4).drop 8
theorem v7L_length (x : List UInt8) (N : Nat) (h : 16 ≤ x.length) : (v7L x N).length = 16 := by rw [v7L, List.length_append, v7Head_length, List.length_drop, formL_length x 4 h]
set_option maxRecDepth 100000 in
set_option maxHeartbeats 1600000 in
theorem newV7_ok (gk gf len c b o t lt cs l7 : Nat) (r n x : List UInt8) (e : Value) (tC tf : TypeId) (w : World) (hk : Blk w gk (clockC t r n lt cs l7) tC) (hf : Blk w gf (feedC (some ⟨b, o, none⟩) len c e) tf) (hx : Rd w (some ⟨b, o, none⟩) x) (hl : x.length = len) (hm : 16 ≤ len) (hlc : len ≤ c) (hc : c ≤ 9223372036854775807) (hbf : b ≠ gf) (hkf : gk ≠ gf)
    (hr : r.length = 2) (hn : n.length = 6) (ht : t ≤ 4102444800000000000) (hl7 : l7 ≤ 1000000000000000000) :
    Calls Try.prog 37 #[.pointer (some ⟨gk, 0, none⟩), .iface 67 (.pointer (some ⟨gf, 0, none⟩))] w fun e' w' => e' = .returned (.tuple #[.agg (bvs (v7L x (next7 l7 t))).toArray, .nilIface]) ∧ Blk w' gk (clockC t r n lt cs (next7 l7 t)) tC ∧ (∀ k, k < w.heap.size → k ≠ gf → k ≠ gk → w'.heap[k]? = w.heap[k]?) ∧ Below 0 w w' := by
  have hb := Below.refl w.heap.size w
  have hgk := hk.lt
  have hgf := hf.lt
  have HL := Lib.hid hl
  have LF := Lib.hid (formL_length x 4 (by omega))
  have L16 := Lib.hid (show (bvs (formL x 4)).length = 16 by rw [bvs_length, LF.out])
  have LV := Lib.hid (show (bvs (v7L x (next7 l7 t))).length = 16 by rw [bvs_length, v7L_length x _ (by omega)])
  have HVL : Hid (v7Head (next7 l7 t / 4096) (next7 l7 t % 4096) ++ (formL x 4).drop 8 = v7L x (next7 l7 t)) := Lib.hid rfl
  clear hl
  go_enter Try.func37, Try.ntmps37
  go_wp2_with (refine wp_alloc_blk uuArr hb rfl rfl rfl (Nat.le_refl _) ?_)
  intro w1 b1 g1 s1 hb1
  clear s1
  have f1 := hf.kept hb1
  have x1 := hx.kept hb1
  go_wp2_with (go_at_call 30; refine (newRandom_ok gf len c b o x e tf _ f1 x1 HL.out hm hlc hc hbf).mono ?_)
  rintro e2 w2 ⟨rfl, -, G2⟩
  have hs1 : w.heap.size < w1.heap.size := b1.lt
  have k2 := (hk.kept hb1).grown G2 (by intro e; exact hkf (Option.some.inj e))
  have b12 := b1.grown G2 (by intro e; have := Option.some.inj e; omega)
  have hb20 : Below 0 w w2 := (hb1.mono (Nat.zero_le _)).grown G2 (Nat.zero_le _) (fun _ _ => Nat.zero_le _)
  have F2 : ∀ k, k < w.heap.size → k ≠ gf → w2.heap[k]? = w.heap[k]? := fun k hk' hkf' => (G2.block k (by omega) (by simpa using hkf')).trans (hb1.block k hk')
  go_wp2_with (refine wp_alloc_blk uuArr hb20 rfl rfl rfl (Nat.zero_le _) ?_)
  intro w3 b3 g3 s3 hb3
  clear s3
  have k3 := k2.grown g3 (by simp)
  have b13 := b12.grown g3 (by simp)
  have hs2 : w1.heap.size ≤ w2.heap.size := G2.size
  have F3 : ∀ k, k < w.heap.size → k ≠ gf → w3.heap[k]? = w.heap[k]? := fun k hk' hkf' => (g3.block k (by omega) (by simp)).trans (F2 k hk' hkf')
  generalize w2.heap.size = q at *
  go_wp2_with (refine wp_store_blk uuArr hb3 rfl rfl rfl rfl b3 (Nat.zero_le _) rfl L16.out (bvs_one _) ?_)
  intro w4 b4 g4 s4 hb4
  clear s4
  have k4 := k3.grown g4 (by intro e; have := Option.some.inj e; omega)
  have b14 := b13.grown g4 (by intro e; have := Option.some.inj e; omega)
  have hs4 : w.heap.size < w4.heap.size := b14.lt
  have F4 : ∀ k, k < w.heap.size → k ≠ gf → w4.heap[k]? = w.heap[k]? := fun k hk' hkf' => (g4.block k (Nat.lt_of_lt_of_le (Nat.lt_trans hk' b13.lt) (Nat.le_refl _)) (by intro e; have := Option.some.inj e; omega)).trans (F3 k hk' hkf')
  go_wp2_with (go_at_call 53; refine (makeV7_ok q gk t lt cs l7 r n (formL x 4) tC _ _ k4 b4 (by omega) LF.out hr hn ht hl7).mono ?_)
  rintro e5 w5 ⟨rfl, b5, k5, T5⟩
  rw [HVL.out] at b5
  have b15 : Blk w5 w.heap.size Z16 55 := (T5.block _ b14.lt (by omega) (by omega)).trans b14
  have hb5 : Below 0 w w5 := T5.below hb4 (Nat.zero_le _) (Nat.zero_le _)
  have F5 : ∀ k, k < w.heap.size → k ≠ gf → k ≠ gk → w5.heap[k]? = w.heap[k]? := fun k hk' hkf' hkk => (T5.block k (Nat.lt_trans hk' hs4) hkk (by omega)).trans (F4 k hk' hkf')
  clear T5
  go_wp2_with (first | (refine wp_load_blk uuArr rfl rfl rfl b5 LV.out ?_) | (refine wp_store_blk uuArr hb5 rfl rfl rfl rfl b15 (Nat.zero_le _) rfl LV.out (bvs_one _) ?_))
  intro w6 b6 g6 s6 hb6
  clear s6
  have k6 := k5.grown g6 (by intro e; have := Option.some.inj e; omega)
  have F6 : ∀ k, k < w.heap.size → k ≠ gf → k ≠ gk → w6.heap[k]? = w.heap[k]? := fun k hk' hkf' hkk => (g6.block k (Nat.lt_trans hk' b15.lt) (by intro e; have := Option.some.inj e; omega)).trans (F5 k hk' hkf' hkk)
  go_wp2
  exact ret_cell_tmp uuArr rfl rfl rfl rfl b6 LV.out ⟨rfl, k6, F6, hb6⟩
end Go.Proofs.Ytbnkbgbgdolihaa
