/- Contracts: a ULID made over monotonic entropy, and its bytes. -/
import Derived.Test.YtcojcohipmoopaaMInc
import Derived.Test.YtcojcohipmoopaaMore
import Derived.Stop.Asserts
namespace Go.Proofs.Ytcojcohipmoopaa
open Go.RowKit
set_option linter.unusedVariables false
set_option linter.unusedSimpArgs false
def Z16 : List Value := List.replicate 16 (.int .u8 0)
theorem ulArr : Arr Try.prog 39 16 Z16 where
  und := ⟨_, Try.underlying39, rfl⟩
  size := by kernel_rfl
  zero := fun w => by kernel_rfl
  len := rfl
/-- One byte stored into a block. -/
theorem wp_store_byte {P : Program} {ops : Array Oper} {rest : List Oper} {o : Oper} {a : Act} {w : World} {Q : Exit → Act → World → Prop} {B0 : Nat} {w0 : World} (hb : Below B0 w0 w) (hgd : o.guard = none) {ty : TypeId} {x y : Operand} (ho : o.op = .store ty x y) (hs : (P.info? ty).map (·.size) = some 1)
    {g i : Nat} (hx : a.eval x = .pointer (some ⟨g, i, none⟩)) {E : Int} (hy : a.eval y = .int .u8 E) (m : Nat) (hE : E = (m : Int)) {cs : List Value} {t : TypeId} (hg : Blk w g cs t) (hB : B0 ≤ g) (hi : i < cs.length)
    (h : ∀ w', Blk w' g (cs.set i (.int .u8 m)) t → w.grownBy w' (some g) → Below B0 w0 w' → wpList P ops Q rest (a.put o.dst undef) w') : wpList P ops Q (o :: rest) a w := by
  subst hE
  refine wp_store_cell hgd ho hs hx hy rfl hg hi fun w' b g' s => h w' b g' (hb.grown g' (Nat.le_trans hB (Nat.le_of_lt hg.lt)) ?_)
  rintro j ⟨⟩
  exact hB
set_option maxRecDepth 100000 in
theorem setTime_ok {B0 : Nat} {w0 : World} (g : Nat) (x : List UInt8) (t : TypeId) (n : Nat) (w : World) (hb : Below B0 w0 w) (hg : Blk w g (bvs x) t) (hB : B0 ≤ g) (hx : x.length = 16) (hn : n < 281474976710656) :
    Calls Try.prog 12 #[.pointer (some ⟨g, 0, none⟩), .int .u64 n] w fun e w' => e = .returned .nilIface ∧ Blk w' g (bvs (be 6 n ++ x.drop 6)) t ∧ Below B0 w0 w' := by
  have hl : ∀ k, k ≤ 6 → (splice (bvs x) 0 ((bvs (be 6 n)).take k)).length = 16 := by
    intro k hk
    rw [length_splice _ _ _ (by rw [List.length_take, bvs_length, bvs_length, be_length, hx]; omega), bvs_length, hx]
  have hsn : ∀ k, k < 6 → (splice (bvs x) 0 ((bvs (be 6 n)).take k)).set k (.int .u8 (B (be 6 n) k)) = splice (bvs x) 0 ((bvs (be 6 n)).take (k + 1)) := by
    intro k hk
    have := splice_snoc (bvs x) (bvs (be 6 n)) 0 k _ (bvs_get (be 6 n) k (by rw [be_length]; exact hk)) (by rw [bvs_length, bvs_length, be_length, hx]; omega)
    rwa [Nat.zero_add] at this
  have hend : splice (bvs x) 0 ((bvs (be 6 n)).take 6) = bvs (be 6 n ++ x.drop 6) := by
    rw [List.take_of_length_le (by rw [bvs_length, be_length]; exact Nat.le_refl _), splice, List.take_zero, List.nil_append, Nat.zero_add, bvs_length, be_length, bvs_append]
    congr 1
    simp [bvs]
  have HL := Lib.hid hl
  have HS := Lib.hid hsn
  have HE := Lib.hid hend
  have hv := fun k hk => B_be 6 n k hk
  have HV := Lib.hid hv
  clear hl hsn hend hv hx
  have d0 : Blk w g (splice (bvs x) 0 ((bvs (be 6 n)).take 0)) t := hg
  clear hg
  go_enter Try.func12, Try.ntmps12
  have v0 : Hid (B (be 6 n) 0 = n / 1099511627776 % 256) := HV.out 0 (by decide)
  go_wp2_with (refine wp_store_byte hb rfl rfl (by kernel_rfl) rfl rfl (B (be 6 n) 0) (by have := v0.out; omega) d0 hB (by rw [HL.out 0 (by decide)]; decide) ?_)
  intro w1 D g1 hb1
  have d1 : Blk w1 g (splice (bvs x) 0 ((bvs (be 6 n)).take 1)) t := by rw [← HS.out 0 (by decide)]; exact D
  clear D g1 d0 v0
  have v1 : Hid (B (be 6 n) 1 = n / 4294967296 % 256) := HV.out 1 (by decide)
  go_wp2_with (refine wp_store_byte hb1 rfl rfl (by kernel_rfl) rfl rfl (B (be 6 n) 1) (by have := v1.out; omega) d1 hB (by rw [HL.out 1 (by decide)]; decide) ?_)
  intro w2 D g2 hb2
  have d2 : Blk w2 g (splice (bvs x) 0 ((bvs (be 6 n)).take 2)) t := by rw [← HS.out 1 (by decide)]; exact D
  clear D g2 d1 v1
  have v2 : Hid (B (be 6 n) 2 = n / 16777216 % 256) := HV.out 2 (by decide)
  go_wp2_with (refine wp_store_byte hb2 rfl rfl (by kernel_rfl) rfl rfl (B (be 6 n) 2) (by have := v2.out; omega) d2 hB (by rw [HL.out 2 (by decide)]; decide) ?_)
  intro w3 D g3 hb3
  have d3 : Blk w3 g (splice (bvs x) 0 ((bvs (be 6 n)).take 3)) t := by rw [← HS.out 2 (by decide)]; exact D
  clear D g3 d2 v2
  have v3 : Hid (B (be 6 n) 3 = n / 65536 % 256) := HV.out 3 (by decide)
  go_wp2_with (refine wp_store_byte hb3 rfl rfl (by kernel_rfl) rfl rfl (B (be 6 n) 3) (by have := v3.out; omega) d3 hB (by rw [HL.out 3 (by decide)]; decide) ?_)
  intro w4 D g4 hb4
  have d4 : Blk w4 g (splice (bvs x) 0 ((bvs (be 6 n)).take 4)) t := by rw [← HS.out 3 (by decide)]; exact D
  clear D g4 d3 v3
  have v4 : Hid (B (be 6 n) 4 = n / 256 % 256) := HV.out 4 (by decide)
  go_wp2_with (refine wp_store_byte hb4 rfl rfl (by kernel_rfl) rfl rfl (B (be 6 n) 4) (by have := v4.out; omega) d4 hB (by rw [HL.out 4 (by decide)]; decide) ?_)
  intro w5 D g5 hb5
  have d5 : Blk w5 g (splice (bvs x) 0 ((bvs (be 6 n)).take 5)) t := by rw [← HS.out 4 (by decide)]; exact D
  clear D g5 d4 v4
  have v5 : Hid (B (be 6 n) 5 = n / 1 % 256) := HV.out 5 (by decide)
  go_wp2_with (refine wp_store_byte hb5 rfl rfl (by kernel_rfl) rfl rfl (B (be 6 n) 5) (by have := v5.out; omega) d5 hB (by rw [HL.out 5 (by decide)]; decide) ?_)
  intro w6 D g6 hb6
  have d6 : Blk w6 g (splice (bvs x) 0 ((bvs (be 6 n)).take 6)) t := by rw [← HS.out 5 (by decide)]; exact D
  clear D g6 d5 v5
  rw [HE.out] at d6
  go_wp2
  go_ret
  exact ⟨rfl, d6, hb6⟩
set_option maxRecDepth 100000 in
theorem ubytes_ok (x : List UInt8) (w : World) :
    Calls Try.prog 10 #[.agg (bvs x).toArray] w fun e w' => e = .returned (.slice (some ⟨w.heap.size, 0, none⟩) 16 16) ∧ Blk w' w.heap.size (bvs x) 39 ∧ Below w.heap.size w w' := by
  have hb := Below.refl w.heap.size w
  go_enter Try.func10, Try.ntmps10
  go_wp2_with (refine wp_box_blk ulArr hb rfl rfl rfl rfl (Nat.le_refl _) ?_)
  intro w1 b1 g1 s1 hb1
  go_wp2
  go_ret
  exact ⟨rfl, b1, hb1⟩


def Z16b : List UInt8 := List.replicate 16 0
theorem has_mono (v : Value) (w : World) : (Instr.typeAssert (.iface 33 v) 48 60 true).run Try.prog w = .ok (.tuple #[.iface 33 v, .bool true]) w :=
  run_typeAssert_hasB Try.underlying60 (by kernel_rfl) v 48 w
theorem mo_nil (a : Addr) (w : World) : (nilAhead 208 33 (.pointer (some a)) "MonotonicRead").run Try.prog w = .ok (some false) w := by kernel_rfl
theorem mo_read (a : Addr) (w : World) : (method 208 33 (.pointer (some a)) "MonotonicRead").run Try.prog w = .ok (37, .pointer (some a)) w := by kernel_rfl
theorem make_parts (n : Nat) (y : List UInt8) (hy : y.length = 10) : splice (bvs (be 6 n ++ Z16b.drop 6)) 6 (bvs y) = bvs (be 6 n ++ y) := by
  have l6 : (bvs (be 6 n)).length = 6 := by rw [bvs_length, be_length]
  rw [bvs_append, splice, List.take_left' l6, List.drop_of_length_le (by rw [List.length_append, l6, bvs_length, bvs_length, hy]; decide), List.append_nil, bvs_append]
theorem still_arrL {P : Program} {S : World → Prop} {a : Act} {o : Oper} {x y : Operand} {t e n : Nat} (ho : o.op = .slice t x (some y) none none) (hu : P.underlying t = some (.array n e)) (hs : (P.info? e).map (·.size) = some 1)
    {g off h : Nat} (hx : a.eval x = .pointer (some ⟨g, off, none⟩)) (hy : a.eval y = .int .i64 (h : Int)) (hh : h < n) : ∀ w', S w' → (execOp a.eval o).run P w' = .ok (.value (.slice (some ⟨g, off + h, none⟩) (n - h) (n - h))) w' := by
  intro w' _
  cases hq : P.info? e with
  | none => simp [hq] at hs
  | some inf =>
    have hs1 : inf.size = 1 := by simpa [hq] using hs
    have h1 : ¬ n = h := by omega
    have h2 : h ≤ n := by omega
    unfold execOp
    simp [ho, hx, hy, Instr.sliceAt, Instr.sureAddr, run_underlying hu, Instr.sliceBounds, Instr.sliceBound, asIntOf, sizeOf, typeInfo, hq, Result.andThen, h1, h2, hs1, Addr.add]
set_option maxRecDepth 100000 in
set_option maxHeartbeats 1600000 in
theorem unewM_ok (gm gs ms0 ms inc E x : Nat) (rnd : List UInt8) (t ts : TypeId) (w : World) (hB : Blk w gm (mE gs ms0 inc (E) rnd) t) (hr8 : rnd.length = 8) (hS : Blk w gs [.int .u32 ((x : Nat) : Int)] ts) (hx : x < 4294967296) (hne : gm ≠ gs) (hi0 : 1 ≤ inc) (hinc : inc ≤ 1099511627776) (hz : zerosFrom (blOf inc) rnd) (hE : E + inc < 1208925819614629174706176) (hms : ms < 281474976710656) :
    Calls Try.prog 9 #[.int .u64 ms, .iface 33 (.pointer (some ⟨gm, 0, none⟩))] w fun e w' => ∃ (E' x' : Nat) (rnd' : List UInt8), e = .returned (.tuple #[.agg (bvs (be 6 ms ++ be 10 E')).toArray, .nilIface]) ∧ Blk w' gm (mE gs ms inc (E') rnd') t ∧ rnd'.length = 8 ∧ zerosFrom (blOf inc) rnd' ∧ Blk w' gs [.int .u32 ((x' : Nat) : Int)] ts ∧ x' < 4294967296 ∧ Sets w w' [gm, gs] ∧ ((E ≠ 0 ∧ ms0 = ms ∧ E + 1 ≤ E' ∧ E' ≤ E + inc) ∨ (¬ (E ≠ 0 ∧ ms0 = ms) ∧ E' = num (sb 10 x))) := by
  have hb := Below.refl w.heap.size w
  have hn1 := has_mono (.pointer (some ⟨gm, 0, none⟩))
  have hnil := mo_nil ⟨gm, 0, none⟩
  have hmeth := mo_read ⟨gm, 0, none⟩
  have hlm := hB.lt
  have hls := hS.lt
  have M := Lib.hid (fun (g off : Nat) (cur : List Value) (tg : TypeId) (w2 : World) (hB : Blk w2 gm (mE gs ms0 inc (E) rnd) t) (hS : Blk w2 gs [.int .u32 ((x : Nat) : Int)] ts) (hG : Blk w2 g cur tg) (hfit : off + 10 ≤ cur.length) (hgm : g ≠ gm) (hgs : g ≠ gs) => mread_ok gm gs ms0 ms inc E x rnd t ts g off cur tg w2 hB hr8 hS hx hne hi0 hinc hz hE hG hfit hgm hgs)
  have L16z := Lib.hid (show (bvs (be 6 ms ++ Z16b.drop 6)).length = 16 by rw [bvs_length, List.length_append, be_length]; rfl)
  have HN := Lib.hid hms
  have HA := Lib.hid (show w.heap.size ≠ gm ∧ w.heap.size ≠ gs by omega)
  clear hms hr8 hx hi0 hinc hz hE hlm hls hne
  go_enter Try.func9, Try.ntmps9
  go_wp2_with (refine wp_alloc_blk ulArr hb rfl rfl rfl (Nat.le_refl _) ?_)
  intro w1 b1 g1 s1 hb1
  clear s1
  go_wp2_with (go_at_call 12; refine (setTime_ok _ Z16b _ ms _ hb1 b1 (Nat.le_refl _) rfl HN.out).mono ?_)
  rintro e2 w2 ⟨rfl, b2, hb2⟩
  have B2 := hB.kept hb2
  have S2 := hS.kept hb2
  clear hB hS g1
  go_wp2
  refine region_plan (fun _ => True) [(0, 0), (1, 0), (2, 0), (3, 1), (4, 0), (5, 0), (6, 1), (7, 0)] rfl (by kernel_rfl) (by kernel_rfl) rfl (by intro c a d v w h; cases d <;> exact h) (fun _ _ _ => trivial) ?_
  intro w3 hh hb3
  simp only [planOps, List.filterMap_cons, List.filterMap_nil, List.getElem?_cons_succ, List.getElem?_cons_zero, Option.map_some]
  have hb23 := hb2.trans (hb3.mono hb2.size)
  have B3 := B2.kept hb3
  have S3 := S2.kept hb3
  have b3 := b2.kept hb3
  clear hh hb3 hb2 B2 S2 b2
  repeat (first | (refine plan_still rfl (still_arrL rfl Try.underlying39 (by kernel_rfl) rfl rfl (by decide)) ?_) | (refine plan_skip rfl ?_) | (refine plan_still (v := ?_) rfl (fun w' hS => ?_) ?_; rotate_left; (focus (go_simp; first | done | with_reducible rfl))); simp only [Act.put, List.setIfInBounds_toArray, List.set_cons_zero, List.set_cons_succ])
  refine plan_do ?_
  go_wp2
  refine ⟨trivial, ?_⟩
  repeat (first | (refine plan_skip rfl ?_) | (refine plan_still (v := ?_) rfl (fun w' hS => ?_) ?_; rotate_left; (focus (go_simp; first | done | with_reducible rfl))); simp only [Act.put, List.setIfInBounds_toArray, List.set_cons_zero, List.set_cons_succ])
  refine plan_do ?_
  go_wp2_with (go_at_call 37; refine (M.out _ 6 _ _ _ B3 S3 b3 (by rw [L16z.out]; decide) HA.out.1 HA.out.2).mono ?_)
  rintro e4 w4 ⟨rfl, E', x', rnd', B4, l4, z4, S4, hx4, G4, T4, hd4⟩
  have HL := Lib.hid (And.intro l4 (And.intro z4 (And.intro hx4 hd4)))
  clear l4 z4 hx4 hd4
  rw [make_parts ms (be 10 E') (be_length 10 E')] at G4
  have L16 := Lib.hid (show (bvs (be 6 ms ++ be 10 E')).length = 16 by rw [bvs_length, List.length_append, be_length, be_length])
  have T : Sets w w4 [gm, gs] := (sets_below hb23 _).new T4 (fun k hk => by simp at hk ⊢; rcases hk with rfl | rfl | rfl <;> simp)
  have hb4 : Below 0 w w4 := T.below (Below.refl 0 w) (Nat.zero_le _) (fun _ _ => Nat.zero_le _)
  clear T4 hb23
  go_wp2
  refine ⟨trivial, ?_⟩
  repeat (first | (refine plan_skip rfl ?_) | (refine plan_still (v := ?_) rfl (fun w' hS => ?_) ?_; rotate_left; (focus (go_simp; first | done | with_reducible rfl))); simp only [Act.put, List.setIfInBounds_toArray, List.set_cons_zero, List.set_cons_succ])
  refine plan_nil ?_
  go_wp2_with (first | (refine wp_load_blk ulArr rfl rfl rfl G4 L16.out ?_) | (refine wp_store_blk ulArr hb4 rfl rfl rfl rfl G4 (Nat.zero_le _) L16.out L16.out (bvs_one _) ?_))
  intro w5 b5 g5 s5 _
  clear s5
  have T5 : Sets w w5 [gm, gs] := T.new (sets_grown g5) (fun k hk => by simp at hk; subst hk; exact .inr (Nat.le_refl _))
  have B5 := B4.grown g5 (by intro e; exact HA.out.1 (Option.some.inj e).symm)
  have S5 := S4.grown g5 (by intro e; exact HA.out.2 (Option.some.inj e).symm)
  clear B4 S4 T g5 hb4
  go_wp2
  exact ret_cell_tmp ulArr rfl rfl rfl rfl b5 L16.out ⟨E', x', rnd', rfl, B5, HL.out.1, HL.out.2.1, S5, HL.out.2.2.1, T5, HL.out.2.2.2⟩
end Go.Proofs.Ytcojcohipmoopaa
