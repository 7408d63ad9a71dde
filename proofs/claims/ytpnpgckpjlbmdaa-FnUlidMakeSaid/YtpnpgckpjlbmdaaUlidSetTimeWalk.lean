/- The law FnUlidSetTime returns true, and turns nothing that was there. -/
import Derived.Test.YtpnpgckpjlbmdaaUlidMore
import Derived.Test.YtpnpgckpjlbmdaaMore
namespace Go.Proofs.Ytpnpgckpjlbmdaa
open Go.RowKit

/-- One byte stored into a block. -/
theorem wp_store_byte {P : Program} {ops : Array Oper} {rest : List Oper} {o : Oper} {a : Act} {w : World} {Q : Exit → Act → World → Prop} {B0 : Nat} {w0 : World} (hb : Below B0 w0 w) (hgd : o.guard = none) {ty : TypeId} {x y : Operand} (ho : o.op = .store ty x y) (hs : (P.info? ty).map (·.size) = some 1)
    {g i : Nat} (hx : a.eval x = .pointer (some ⟨g, i, none⟩)) {E : Int} (hy : a.eval y = .int .u8 E) (m : Nat) (hE : E = (m : Int)) {cs : List Value} {t : TypeId} (hg : Blk w g cs t) (hB : B0 ≤ g) (hi : i < cs.length)
    (h : ∀ w', Blk w' g (cs.set i (.int .u8 m)) t → w.grownBy w' (some g) → Below B0 w0 w' → wpList P ops Q rest (a.put o.dst undef) w') : wpList P ops Q (o :: rest) a w := by
  subst hE
  refine wp_store_cell hgd ho hs hx hy rfl hg hi fun w' b g' s => h w' b g' (hb.grown g' (Nat.le_trans hB (Nat.le_of_lt hg.lt)) ?_)
  rintro j ⟨⟩
  exact hB
def errBigTime : Value := .iface 67 (.string ⟨#[117, 108, 105, 100, 58, 32, 116, 105, 109, 101, 32, 116, 111, 111, 32, 98, 105, 103]⟩)

set_option maxRecDepth 100000 in
theorem setTime_ok {B0 : Nat} {w0 : World} (g : Nat) (x : List UInt8) (t : TypeId) (n : Nat) (w : World) (hb : Below B0 w0 w) (hg : Blk w g (bvs x) t) (hB : B0 ≤ g) (hx : x.length = 16) (hn : n < 281474976710656) :
    Calls Try.prog 26 #[.pointer (some ⟨g, 0, none⟩), .int .u64 n] w fun e w' => e = .returned .nilIface ∧ Blk w' g (bvs (be 6 n ++ x.drop 6)) t ∧ Below B0 w0 w' := by
  have hl : ∀ k, k ≤ 6 → (splice (bvs x) 0 ((bvs (be 6 n)).take k)).length = 16 := by
    intro k hk
    rw [length_splice _ _ _ (by rw [List.length_take, bvs_length, bvs_length, be_length, hx]; omega), bvs_length, hx]
  have hsn : ∀ k, k < 6 → (splice (bvs x) 0 ((bvs (be 6 n)).take k)).set k (.int .u8 (B (be 6 n) k)) = splice (bvs x) 0 ((bvs (be 6 n)).take (k + 1)) := by
    intro k hk
    have := splice_snoc (bvs x) (bvs (be 6 n)) 0 k _ (bvs_get (be 6 n) k (by rw [be_length]; exact hk)) (by rw [bvs_length, bvs_length, be_length, hx]; omega)
    rwa [Nat.zero_add] at this
  have hend : splice (bvs x) 0 ((bvs (be 6 n)).take 6) = bvs (be 6 n ++ x.drop 6) := by
    rw [List.take_of_length_le (by rw [bvs_length, be_length]; exact Nat.le_refl _), splice, List.take_zero, List.nil_append, Nat.zero_add, bvs_length, be_length, bvs_append]
    congr 1
    simp [bvs]
  have HL := Lib.hid hl
  have HS := Lib.hid hsn
  have HE := Lib.hid hend
  have hv := fun k hk => B_be 6 n k hk
  have HV := Lib.hid hv
  clear hl hsn hend hv hx
  have d0 : Blk w g (splice (bvs x) 0 ((bvs (be 6 n)).take 0)) t := hg
  clear hg
  go_enter Try.func26, Try.ntmps26
  have v0 : Hid (B (be 6 n) 0 = n / 1099511627776 % 256) := HV.out 0 (by decide)
  go_wp2_with (refine wp_store_byte hb rfl rfl (by kernel_rfl) rfl rfl (B (be 6 n) 0) (by have := v0.out; omega) d0 hB (by rw [HL.out 0 (by decide)]; decide) ?_)
  intro w1 D g1 hb1
  have d1 : Blk w1 g (splice (bvs x) 0 ((bvs (be 6 n)).take 1)) t := by rw [← HS.out 0 (by decide)]; exact D
  clear D g1 d0 v0
  have v1 : Hid (B (be 6 n) 1 = n / 4294967296 % 256) := HV.out 1 (by decide)
  go_wp2_with (refine wp_store_byte hb1 rfl rfl (by kernel_rfl) rfl rfl (B (be 6 n) 1) (by have := v1.out; omega) d1 hB (by rw [HL.out 1 (by decide)]; decide) ?_)
  intro w2 D g2 hb2
  have d2 : Blk w2 g (splice (bvs x) 0 ((bvs (be 6 n)).take 2)) t := by rw [← HS.out 1 (by decide)]; exact D
  clear D g2 d1 v1
  have v2 : Hid (B (be 6 n) 2 = n / 16777216 % 256) := HV.out 2 (by decide)
  go_wp2_with (refine wp_store_byte hb2 rfl rfl (by kernel_rfl) rfl rfl (B (be 6 n) 2) (by have := v2.out; omega) d2 hB (by rw [HL.out 2 (by decide)]; decide) ?_)
  intro w3 D g3 hb3
  have d3 : Blk w3 g (splice (bvs x) 0 ((bvs (be 6 n)).take 3)) t := by rw [← HS.out 2 (by decide)]; exact D
  clear D g3 d2 v2
  have v3 : Hid (B (be 6 n) 3 = n / 65536 % 256) := HV.out 3 (by decide)
  go_wp2_with (refine wp_store_byte hb3 rfl rfl (by kernel_rfl) rfl rfl (B (be 6 n) 3) (by have := v3.out; omega) d3 hB (by rw [HL.out 3 (by decide)]; decide) ?_)
  intro w4 D g4 hb4
  have d4 : Blk w4 g (splice (bvs x) 0 ((bvs (be 6 n)).take 4)) t := by rw [← HS.out 3 (by decide)]; exact D
  clear D g4 d3 v3
  have v4 : Hid (B (be 6 n) 4 = n / 256 % 256) := HV.out 4 (by decide)
  go_wp2_with (refine wp_store_byte hb4 rfl rfl (by kernel_rfl) rfl rfl (B (be 6 n) 4) (by have := v4.out; omega) d4 hB (by rw [HL.out 4 (by decide)]; decide) ?_)
  intro w5 D g5 hb5
  have d5 : Blk w5 g (splice (bvs x) 0 ((bvs (be 6 n)).take 5)) t := by rw [← HS.out 4 (by decide)]; exact D
  clear D g5 d4 v4
  have v5 : Hid (B (be 6 n) 5 = n / 1 % 256) := HV.out 5 (by decide)
  go_wp2_with (refine wp_store_byte hb5 rfl rfl (by kernel_rfl) rfl rfl (B (be 6 n) 5) (by have := v5.out; omega) d5 hB (by rw [HL.out 5 (by decide)]; decide) ?_)
  intro w6 D g6 hb6
  have d6 : Blk w6 g (splice (bvs x) 0 ((bvs (be 6 n)).take 6)) t := by rw [← HS.out 5 (by decide)]; exact D
  clear D g6 d5 v5
  rw [HE.out] at d6
  go_wp2
  go_ret
  exact ⟨rfl, d6, hb6⟩
theorem setTime_bad (g n : Nat) (w : World) (hn : 281474976710655 < n) :
    Calls Try.prog 26 #[.pointer (some ⟨g, 0, none⟩), .int .u64 n] w fun e w' => e = .returned errBigTime ∧ w = w' := by
  go_enter Try.func26, Try.ntmps26
  go_wp2
  go_ret
  exact ⟨rfl, rfl⟩
set_option maxRecDepth 100000 in
theorem ubytes_ok (x : List UInt8) (w : World) :
    Calls Try.prog 27 #[.agg (bvs x).toArray] w fun e w' => e = .returned (.slice (some ⟨w.heap.size, 0, none⟩) 16 16) ∧ Blk w' w.heap.size (bvs x) 50 ∧ Below w.heap.size w w' := by
  have hb := Below.refl w.heap.size w
  go_enter Try.func27, Try.ntmps27
  go_wp2_with (refine wp_box_blk ulArr hb rfl rfl rfl rfl (Nat.le_refl _) ?_)
  intro w1 b1 g1 s1 hb1
  go_wp2
  go_ret
  exact ⟨rfl, b1, hb1⟩

set_option maxRecDepth 100000 in
theorem ulidSetTime_ok (a1 : Option Addr) (x : List UInt8) (c1 n : Nat) (w : World) (h1 : Rd w a1 x) (hx : x.length = 16) (hn : n < 281474976710656) :
    Calls Try.prog 11 #[.slice a1 16 c1, .int .u64 n] w fun e w' => ∃ g, e = .returned (.tuple #[.slice (some ⟨g, 0, none⟩) 16 16, .bool true]) ∧ Blk w' g (bvs (be 6 n ++ x.drop 6)) 50 ∧ Below w.heap.size w w' := by
  have hb := Below.refl w.heap.size w
  have L := Lib.hid hx
  have L16 := Lib.hid (show (bvs (be 6 n ++ x.drop 6)).length = 16 by rw [bvs_length, List.length_append, be_length, List.length_drop, hx])
  clear hx
  go_enter Try.func11, Try.ntmps11
  go_wp2_with (refine wp_alloc_blk ulArr hb rfl rfl rfl (Nat.le_refl _) ?_)
  intro w3 b3 g3 s3 hb3
  clear s3
  go_wp2_with (refine wp_store_blk ulArr hb3 rfl rfl rfl (cs := Z16) rfl b3 (Nat.le_refl _) rfl rfl (by decide) ?_)
  intro w4 b4 g4 s4 hb4
  clear s4
  go_wp2_with (go_at_call 22; refine (unmarshal_ok _ _ _ a1 x c1 _ hb4 b4 (Nat.le_refl _) rfl (h1.kept hb4) L.out).mono ?_)
  rintro e w5 ⟨rfl, b5, g5, hb5⟩
  go_wp2_with (go_at_call 26; refine (setTime_ok _ x _ n _ hb5 b5 (Nat.le_refl _) L.out hn).mono ?_)
  rintro e w6 ⟨rfl, b6, hb6⟩
  go_wp2_with (first | (refine wp_load_blk ulArr rfl rfl rfl b6 L16.out ?_) | (go_at_call 27; refine (ubytes_ok _ _).mono ?_))
  rintro e w7 ⟨rfl, b7, hb7⟩
  go_wp2
  exact ret_tmp2 rfl rfl rfl rfl ⟨_, rfl, b7, hb6.trans (hb7.mono hb6.size)⟩
set_option maxRecDepth 100000 in
theorem ulidSetTime_bad (a1 : Option Addr) (x : List UInt8) (c1 n : Nat) (w : World) (h1 : Rd w a1 x) (hx : x.length = 16) (hn : 281474976710655 < n) :
    Calls Try.prog 11 #[.slice a1 16 c1, .int .u64 n] w fun e w' => e = .returned (.tuple #[.slice none 0 0, .bool false]) ∧ Below w.heap.size w w' := by
  have hb := Below.refl w.heap.size w
  have L := Lib.hid hx
  clear hx
  go_enter Try.func11, Try.ntmps11
  go_wp2_with (refine wp_alloc_blk ulArr hb rfl rfl rfl (Nat.le_refl _) ?_)
  intro w3 b3 g3 s3 hb3
  clear s3
  go_wp2_with (refine wp_store_blk ulArr hb3 rfl rfl rfl (cs := Z16) rfl b3 (Nat.le_refl _) rfl rfl (by decide) ?_)
  intro w4 b4 g4 s4 hb4
  clear s4
  go_wp2_with (go_at_call 22; refine (unmarshal_ok _ _ _ a1 x c1 _ hb4 b4 (Nat.le_refl _) rfl (h1.kept hb4) L.out).mono ?_)
  rintro e w5 ⟨rfl, b5, g5, hb5⟩
  go_wp2_with (go_at_call 26; refine (setTime_bad _ n _ hn).mono ?_)
  rintro e w6 ⟨rfl, rfl⟩
  unfold errBigTime
  go_wp2
  exact ret_tmp2 rfl rfl rfl rfl ⟨rfl, hb5⟩

set_option maxRecDepth 100000 in
theorem ulidSetTime_main (a0 : Option Addr) (x0 : List UInt8) (c0 n : Nat) (w : World) (h0 : Rd w a0 x0) (hlen : x0.length = 16) (hc : 16 ≤ c0) (hn : n < 281474976710656) :
    Calls Try.prog 4 #[.slice a0 16 c0, .int .u64 n] w fun e w' => e = .returned (.bool true) ∧ Below w.heap.size w w' := by
  have L := Lib.hid hlen
  have L2 := Lib.hid (show (be 6 n ++ x0.drop 6).length = 16 by rw [List.length_append, be_length, List.length_drop, hlen])
  have L10 := Lib.hid (show (x0.drop 6).length = 10 by rw [List.length_drop, hlen])
  obtain ⟨b0, o0, rfl, -⟩ := h0.2.resolve_left (by intro h; simp [h] at hlen)
  have HN := Lib.hid hn
  have hge : ¬ (281474976710656 : Int) ≤ (n : Int) := by omega
  clear hlen hn
  go_enter Try.func4, Try.ntmps4
  have hge2 := Lib.hid hge
  clear hge
  go_wp2_with (go_at_call 11; refine (ulidSetTime_ok _ x0 c0 n _ h0 L.out HN.out).mono ?_; rintro e w2 ⟨g, rfl, b2, hb2⟩; have hge := decide_eq_false hge2.out)
  have r2 := b2.rd (by rw [L2.out]; decide)
  have r0 : Rd w2 (some ⟨b0, o0 + 6, none⟩) (x0.drop 6) := by
    have := (h0.kept hb2).part 6 10 (by rw [L.out]; decide) (by decide)
    rw [Option.map_some, Addr.add_mid, List.take_of_length_le (by rw [L10.out]; exact Nat.le_refl _)] at this
    exact this
  go_wp2_with fail
  refine region_plan (fun w' => Below w2.heap.size w2 w') [(0, 0), (1, 0), (2, 0), (3, 0), (5, 0), (6, 0), (4, 1), (7, 1), (8, 1), (9, 0), (10, 0)] rfl (by kernel_rfl) (by kernel_rfl) rfl (by intro c a d v w h; cases d <;> exact h) (fun _ _ h => h) ?_
  intro w3 hpW hb3
  clear hpW
  simp only [planOps, List.filterMap_cons, List.filterMap_nil, List.getElem?_cons_succ, List.getElem?_cons_zero, Option.map_some]
  repeat (first | (refine plan_still rfl (still_slice_from (k := 6) rfl Try.underlying22 (by kernel_rfl) rfl rfl (by decide) (by omega)) ?_) | (refine plan_skip rfl ?_) | (refine plan_still (v := ?_) rfl (fun w' hS => ?_) ?_; rotate_left; (focus (go_simp; first | done | with_reducible rfl))); simp only [Act.put, List.setIfInBounds_toArray, List.set_cons_zero, List.set_cons_succ])
  refine plan_do ?_
  go_wp2_with (go_at_call 15; refine (specBytes_ok n 6 _ (by decide) (Nat.lt_trans HN.out (by decide))).mono ?_; rintro e w4 ⟨rfl, b4, hb4⟩)
  have hb24 := hb3.trans (hb4.mono hb3.size)
  have r4 := b4.rd (by rw [be_length]; decide)
  refine ⟨hb24, plan_do ?_⟩
  go_wp2_with (go_at_call 14; refine (join_at (n2 := 10) _ _ r4 (r0.kept hb24) (be_length 6 n) L10.out (by decide)).mono ?_; rintro e w5 ⟨ja, jc, rfl, rj, -, hb5⟩)
  have hb25 := hb24.trans (hb5.mono hb24.size)
  refine ⟨hb25, plan_do ?_⟩
  go_wp2_with (go_at_call 13; refine (same_eq (r2.kept hb25) rj L2.out L2.out).mono ?_; rintro e w6 ⟨rfl, n6, rfl⟩)
  have hb26 := below_drewN hb25 n6
  refine ⟨hb26, ?_⟩
  repeat (first | (refine plan_skip rfl ?_) | (refine plan_still (v := ?_) rfl (fun w' hS => ?_) ?_; rotate_left; (focus (go_simp; first | done | with_reducible rfl))); simp only [Act.put, List.setIfInBounds_toArray, List.set_cons_zero, List.set_cons_succ])
  refine plan_nil ?_
  go_wp2
  go_ret
  exact ⟨rfl, hb2.trans (hb26.mono hb2.size)⟩

set_option maxRecDepth 100000 in
theorem ulidSetTime_walk (a0 : Option Addr) (x0 : List UInt8) (c0 : Nat) (a1 : Int) (w : World) (h0 : Rd w a0 x0) (hc : x0.length ≤ c0) (_ : c0 ≤ 9223372036854775807) (w1 : (Lit.int .u64 a1).wf = true) :
    Calls Try.prog 4 #[.slice a0 x0.length c0, .int .u64 a1] w fun e w' => e = .returned (.bool true) ∧ Below w.heap.size w w' := by
  have hb := Below.refl w.heap.size w
  have hl := h0.1
  obtain ⟨n, rfl⟩ : ∃ n : Nat, a1 = n := ⟨a1.toNat, by simp [Lit.wf, IntKind.min, IntKind.max, IntKind.signed, IntKind.bits] at w1; omega⟩
  clear w1
  by_cases hlen : x0.length = 16
  · rw [hlen]
    by_cases hn : n < 281474976710656
    · exact ulidSetTime_main a0 x0 c0 n w h0 hlen (by omega) hn
    · have L := Lib.hid hlen
      have HN : Hid (281474976710655 < n) := by show 281474976710655 < n; omega
      have hge2 := Lib.hid (decide_eq_true (show (281474976710656 : Int) ≤ (n : Int) by omega))
      clear hlen hn hl hc
      go_enter Try.func4, Try.ntmps4
      go_wp2_with (go_at_call 11; refine (ulidSetTime_bad a0 x0 c0 n _ h0 L.out HN.out).mono ?_; rintro e w2 ⟨rfl, hb2⟩; have hge := hge2.out)
      go_wp2_with (go_at_call 12; refine (known_ok _).mono ?_; rintro e w3 ⟨rfl, hb3⟩)
      go_wp2
      go_ret
      exact ⟨rfl, hb2.trans (hb3.mono hb2.size)⟩
  · have hne : ((x0.length : Int) != 16) = true := by rw [bne_iff_ne]; omega
    by_cases hbig : 2147483647 < x0.length
    all_goals
      go_enter Try.func4, Try.ntmps4
      go_wp2
      go_ret
      exact ⟨rfl, hb⟩
end Go.Proofs.Ytpnpgckpjlbmdaa
