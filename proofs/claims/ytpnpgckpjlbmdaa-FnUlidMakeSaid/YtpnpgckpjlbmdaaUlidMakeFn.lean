/- Contracts: a ULID made of a time and a reader, and its parts. -/
import Derived.Test.YtpnpgckpjlbmdaaUlidSetTimeWalk
import Derived.Test.YtpnpgckpjlbmdaaReadL
import Derived.Stop.Asserts
namespace Go.Proofs.Ytpnpgckpjlbmdaa
open Go.RowKit
set_option linter.unusedVariables false

theorem or64' (i : Nat) (X Y : Int) (h1 : 0 ≤ Y) (h2 : Y % 2 ^ i = 0) (h3 : 0 ≤ X) (h4 : X < 2 ^ i) (h5 : Y < 18446744073709551616) (h6 : X < 18446744073709551616) : bits .or .u64 X Y = X + Y := by
  obtain ⟨x, rfl⟩ := Int.eq_ofNat_of_zero_le h3
  obtain ⟨y, rfl⟩ := Int.eq_ofNat_of_zero_le h1
  have h2' : y % 2 ^ i = 0 := by exact_mod_cast h2
  have h4' : x < 2 ^ i := by exact_mod_cast h4
  rw [u64_or_nat x y (by omega) (by omega), Nat.or_comm, nat_join i y x h2' h4']
  simp
  omega
def Z16b : List UInt8 := List.replicate 16 0
theorem splice_whole (l m : List Value) (h : l.length = m.length) : splice l 0 m = m := by simp [splice, h]
theorem num_be6 : ∀ (m n : Nat), num (be m n) = n % 256 ^ m
  | 0, n => by simp [be, num, Nat.mod_one]
  | m + 1, n => by
    have h1 : num [UInt8.ofNat n] = n % 256 := by simp [num]
    rw [be, num_append, num_be6 m, h1, List.length_singleton, Nat.pow_one, Nat.pow_succ, Nat.mul_comm (256 ^ m), Nat.mod_mul]
    omega
theorem num6 : ∀ (y : List UInt8), y.length = 6 → num y = B y 0 * 1099511627776 + B y 1 * 4294967296 + B y 2 * 16777216 + B y 3 * 65536 + B y 4 * 256 + B y 5
  | [a, b, c, d, e, f], _ => by
    simp [num, B]
    omega
theorem B_take (x : List UInt8) (k i : Nat) (h : i < k) : B (x.take k) i = B x i := by simp [B, List.getElem?_take, h]
set_option maxRecDepth 100000 in
theorem utime_ok (x : List UInt8) (w : World) (hx : x.length = 16) :
    Calls Try.prog 31 #[.agg (bvs x).toArray] w fun e w' => e = .returned (.int .u64 (num (x.take 6))) ∧ Below w.heap.size w w' := by
  have hb := Below.refl w.heap.size w
  have hn := num6 (x.take 6) (by rw [List.length_take, hx]; rfl)
  rw [B_take _ _ _ (by decide), B_take _ _ _ (by decide), B_take _ _ _ (by decide), B_take _ _ _ (by decide), B_take _ _ _ (by decide), B_take _ _ _ (by decide)] at hn
  have hg : ∀ j, j < 16 → (bvs x)[j]? = some (.int .u8 (B x j)) := fun j hj => bvs_get x j (by omega)
  have l0 := B_lt x 0
  have l1 := B_lt x 1
  have l2 := B_lt x 2
  have l3 := B_lt x 3
  have l4 := B_lt x 4
  have l5 := B_lt x 5
  have g0 := hg 0 (by decide)
  have g1 := hg 1 (by decide)
  have g2 := hg 2 (by decide)
  have g3 := hg 3 (by decide)
  have g4 := hg 4 (by decide)
  have g5 := hg 5 (by decide)
  clear hg
  generalize B x 0 = b0 at *
  generalize B x 1 = b1 at *
  generalize B x 2 = b2 at *
  generalize B x 3 = b3 at *
  generalize B x 4 = b4 at *
  generalize B x 5 = b5 at *
  have N : Hid ((b5 : Int) + b4 * 256 + b3 * 65536 + b2 * 16777216 + b1 * 4294967296 + b0 * 1099511627776 = (num (x.take 6) : Int)) := Lib.hid (by rw [hn]; omega)
  clear hn
  have f4 : bits .or .u64 (b5 : Int) ((b4 : Int) * 256) = (b5 : Int) + b4 * 256 := or64' 8 _ _ (by omega) (by omega) (by omega) (by omega) (by omega) (by omega)
  have f3 : bits .or .u64 ((b5 : Int) + b4 * 256) ((b3 : Int) * 65536) = (b5 : Int) + b4 * 256 + b3 * 65536 := or64' 16 _ _ (by omega) (by omega) (by omega) (by omega) (by omega) (by omega)
  have f2 : bits .or .u64 ((b5 : Int) + b4 * 256 + b3 * 65536) ((b2 : Int) * 16777216) = (b5 : Int) + b4 * 256 + b3 * 65536 + b2 * 16777216 := or64' 24 _ _ (by omega) (by omega) (by omega) (by omega) (by omega) (by omega)
  have f1 : bits .or .u64 ((b5 : Int) + b4 * 256 + b3 * 65536 + b2 * 16777216) ((b1 : Int) * 4294967296) = (b5 : Int) + b4 * 256 + b3 * 65536 + b2 * 16777216 + b1 * 4294967296 := or64' 32 _ _ (by omega) (by omega) (by omega) (by omega) (by omega) (by omega)
  have f0 : bits .or .u64 ((b5 : Int) + b4 * 256 + b3 * 65536 + b2 * 16777216 + b1 * 4294967296) ((b0 : Int) * 1099511627776) = (b5 : Int) + b4 * 256 + b3 * 65536 + b2 * 16777216 + b1 * 4294967296 + b0 * 1099511627776 := or64' 40 _ _ (by omega) (by omega) (by omega) (by omega) (by omega) (by omega)
  go_enter Try.func31, Try.ntmps31
  go_wp2_with (refine wp_box_blk ulArr hb rfl rfl rfl rfl (Nat.le_refl _) ?_)
  intro w1 bk gk s1 hb1
  clear s1
  have c0 := (bk.cell 0).trans g0
  have c1 := (bk.cell 1).trans g1
  have c2 := (bk.cell 2).trans g2
  have c3 := (bk.cell 3).trans g3
  have c4 := (bk.cell 4).trans g4
  have c5 := (bk.cell 5).trans g5
  clear g0 g1 g2 g3 g4 g5
  go_wp2
  go_ret
  exact ⟨by rw [N.out]; rfl, hb1⟩
set_option maxRecDepth 100000 in
theorem uentropy_ok (x : List UInt8) (w : World) (hx : x.length = 16) :
    Calls Try.prog 32 #[.agg (bvs x).toArray] w fun e w' => ∃ g, e = .returned (.slice (some ⟨g, 0, none⟩) 10 10) ∧ Blk w' g (bvs (x.drop 6)) 5 ∧ w.heap.size ≤ g ∧ Below w.heap.size w w' := by
  have hb := Below.refl w.heap.size w
  have L := Lib.hid hx
  have L10 := Lib.hid (show (x.drop 6).length = 10 by rw [List.length_drop, hx])
  clear hx
  go_enter Try.func32, Try.ntmps32
  go_wp2_with (refine wp_box_blk ulArr hb rfl rfl rfl rfl (Nat.le_refl _) ?_)
  intro w1 b1 g1 s1 hb1
  clear s1
  go_wp2_with (at_make; refine wp_make_zero rfl rfl Try.underlying22 info5 rfl (n := 10) rfl rfl (by decide) (by decide) ?_)
  intro w2 b2 g2 s2
  clear s2
  have hb2 := hb1.trans ((below_grown g2).mono hb1.size)
  have b12 := b1.grown g2 (by simp)
  have r1 := (b12.rd (by rw [L.out]; decide)).part 6 10 (by rw [L.out]; decide) (by decide)
  rw [Option.map_some, Addr.add_mid, List.take_of_length_le (by rw [L10.out]; exact Nat.le_refl _)] at r1
  have hle : w.heap.size ≤ w1.heap.size := hb1.size
  generalize w1.heap.size = q at *
  go_wp2_with (refine wp_copy_min (k := 10) rfl rfl Try.underlying22 (by kernel_rfl) rfl rfl b2 (x.drop 6) r1 L10.out rfl (by decide) (by decide) ?_)
  intro w3 b3 g3 s3
  clear s3
  rw [List.take_of_length_le (by rw [L10.out]; exact Nat.le_refl _), splice_whole] at b3
  rotate_left
  · rw [bvs_length, L10.out]; rfl
  have hb3 := hb2.grown g3 hb2.size (by rintro j ⟨⟩; exact hle)
  go_wp2
  go_ret
  exact ⟨_, rfl, b3, hle, hb3⟩
set_option maxRecDepth 100000 in
theorem ulidParts_ok (a1 : Option Addr) (x : List UInt8) (c1 : Nat) (w : World) (h1 : Rd w a1 x) (hx : x.length = 16) :
    Calls Try.prog 21 #[.slice a1 16 c1] w fun e w' => ∃ g, e = .returned (.tuple #[.int .u64 (num (x.take 6)), .slice (some ⟨g, 0, none⟩) 10 10, .bool true]) ∧ Blk w' g (bvs (x.drop 6)) 5 ∧ Below w.heap.size w w' := by
  have hb := Below.refl w.heap.size w
  have L := Lib.hid hx
  have L16 := Lib.hid (show (bvs x).length = 16 by rw [bvs_length, hx])
  clear hx
  go_enter Try.func21, Try.ntmps21
  go_wp2_with (refine wp_alloc_blk ulArr hb rfl rfl rfl (Nat.le_refl _) ?_)
  intro w1 b1 g1 s1 hb1
  clear s1
  go_wp2_with (refine wp_store_blk ulArr hb1 rfl rfl rfl (cs := Z16) rfl b1 (Nat.le_refl _) rfl rfl (by decide) ?_)
  intro w2 b2 g2 s2 hb2
  clear s2
  go_wp2_with (go_at_call 22; refine (unmarshal_ok _ Z16 _ a1 x c1 _ hb2 b2 (Nat.le_refl _) rfl (h1.kept hb2) L.out).mono ?_)
  rintro e w3 ⟨rfl, b3, -, hb3⟩
  go_wp2_with fail
  refine region_plan (fun w' => Below w3.heap.size w3 w') [(0, 0), (2, 0), (1, 1), (3, 1), (4, 0), (5, 0), (6, 0)] rfl (by kernel_rfl) (by kernel_rfl) rfl (by intro c a d v w h; cases d <;> exact h) (fun _ _ h => h) ?_
  intro w4 hpW hb4
  clear hpW
  simp only [planOps, List.filterMap_cons, List.filterMap_nil, List.getElem?_cons_succ, List.getElem?_cons_zero, Option.map_some]
  repeat (first | (refine plan_still rfl (still_blk ulArr rfl rfl (fun w' hS => b3.kept hS) L16.out) ?_) | (refine plan_skip rfl ?_) | (refine plan_still (v := ?_) rfl (fun w' hS => ?_) ?_; rotate_left; (focus (go_simp; first | done | with_reducible rfl))); simp only [Act.put, List.setIfInBounds_toArray, List.set_cons_zero, List.set_cons_succ])
  refine plan_do ?_
  go_wp2_with (go_at_call 31; refine (utime_ok x _ L.out).mono ?_)
  rintro e w5 ⟨rfl, hb5⟩
  have hb45 := hb4.trans (hb5.mono hb4.size)
  go_wp2
  refine ⟨hb45, ?_⟩
  repeat (first | (refine plan_still rfl (still_blk ulArr rfl rfl (fun w' hS => b3.kept hS) L16.out) ?_) | (refine plan_skip rfl ?_) | (refine plan_still (v := ?_) rfl (fun w' hS => ?_) ?_; rotate_left; (focus (go_simp; first | done | with_reducible rfl))); simp only [Act.put, List.setIfInBounds_toArray, List.set_cons_zero, List.set_cons_succ])
  refine plan_do ?_
  go_wp2_with (go_at_call 32; refine (uentropy_ok x _ L.out).mono ?_; rintro e w6 ⟨g6, rfl, b6, -, hb6⟩)
  have hb46 := hb45.trans (hb6.mono hb45.size)
  refine ⟨hb46, ?_⟩
  repeat (first | (refine plan_skip rfl ?_) | (refine plan_still (v := ?_) rfl (fun w' hS => ?_) ?_; rotate_left; (focus (go_simp; first | done | with_reducible rfl))); simp only [Act.put, List.setIfInBounds_toArray, List.set_cons_zero, List.set_cons_succ])
  refine plan_nil ?_
  go_wp2
  exact ret_tmp3 rfl rfl rfl rfl rfl ⟨_, rfl, b6, hb3.trans (hb46.mono hb3.size)⟩
theorem no_mono (v : Value) (w : World) : (Instr.typeAssert (.iface 66 v) 78 89 true).run Try.prog w = .ok (.tuple #[.nilIface, .bool false]) w :=
  run_typeAssert_lacksB Try.underlying89 (by kernel_rfl) (by kernel_rfl) v 78 w
theorem make_parts (n : Nat) (y : List UInt8) (hy : y.length = 10) : splice (bvs (be 6 n ++ Z16b.drop 6)) 6 (bvs y) = bvs (be 6 n ++ y) := by
  have l6 : (bvs (be 6 n)).length = 6 := by rw [bvs_length, be_length]
  rw [bvs_append, splice, List.take_left' l6, List.drop_of_length_le (by rw [List.length_append, l6, bvs_length, bvs_length, hy]; decide), List.append_nil, bvs_append]
set_option maxRecDepth 100000 in
set_option maxHeartbeats 1600000 in
theorem unew_ok (gf n len c b o : Nat) (bs : List UInt8) (e : Value) (tf : TypeId) (w : World) (hn : n < 281474976710656) (hf : Blk w gf (feedC (some ⟨b, o, none⟩) len c e) tf) (hr : Rd w (some ⟨b, o, none⟩) bs) (hl : bs.length = len) (hm : 10 ≤ len) (hlc : len ≤ c) (hc : c ≤ 9223372036854775807) (hbf : b ≠ gf) :
    Calls Try.prog 30 #[.int .u64 n, .iface 66 (.pointer (some ⟨gf, 0, none⟩))] w fun e' w' => e' = .returned (.tuple #[.agg (bvs (be 6 n ++ bs.take 10)).toArray, .nilIface]) ∧ ∀ B0, B0 ≤ gf → B0 ≤ w.heap.size → Below B0 w w' := by
  have hb := Below.refl w.heap.size w
  have hn1 := no_mono (.pointer (some ⟨gf, 0, none⟩))
  have hbw : b < w.heap.size := by
    obtain ⟨b', o', he, hcc⟩ := hr.2.resolve_left (by intro h; simp [h] at hl; omega)
    obtain rfl : b = b' := by simp at he; exact he.1
    exact World.block_lt_of_cell? w _ (hcc 0 (by omega))
  have hgl := hf.lt
  have HL := Lib.hid hl
  have LT := Lib.hid (show (bs.take 10).length = 10 by rw [List.length_take, hl]; omega)
  have HM := Lib.hid (make_parts n (bs.take 10) LT.out)
  have L16 := Lib.hid (show (bvs (be 6 n ++ bs.take 10)).length = 16 by rw [bvs_length, List.length_append, be_length, LT.out])
  have L16z := Lib.hid (show (bvs (be 6 n ++ Z16b.drop 6)).length = 16 by rw [bvs_length, List.length_append, be_length]; rfl)
  have HN := Lib.hid hn
  clear hl hn
  go_enter Try.func30, Try.ntmps30
  go_wp2_with (refine wp_alloc_blk ulArr hb rfl rfl rfl (Nat.le_refl _) ?_)
  intro w1 b1 g1 s1 hb1
  clear s1
  go_wp2_with (go_at_call 26; refine (setTime_ok _ Z16b _ n _ hb1 b1 (Nat.le_refl _) rfl HN.out).mono ?_)
  rintro e2 w2 ⟨rfl, b2, hb2⟩
  have f2 := hf.kept hb2
  have r2 := hr.kept hb2
  go_wp2_with (go_at_call 37; refine (readFull_ok gf b o len c 10 bs e tf w.heap.size 6 10 _ _ _ f2 r2 HL.out (by decide) hm hlc hc (by decide) b2 (by rw [L16z.out]; decide) (by omega) (by omega) hbf).mono ?_)
  rintro e3 w3 ⟨rfl, b3, T3⟩
  rw [HM.out] at b3
  have hb3 : ∀ B0, B0 ≤ gf → B0 ≤ w.heap.size → Below B0 w w3 := fun B0 h1 h2 => T3.below (hb2.mono h2) h2 h1
  have hb3' : Below 0 w w3 := hb3 0 (Nat.zero_le _) (Nat.zero_le _)
  clear T3
  go_wp2_with (first | (refine wp_load_blk ulArr rfl rfl rfl b3 L16.out ?_) | (refine wp_store_blk ulArr hb3' rfl rfl rfl rfl b3 (Nat.zero_le _) L16.out L16.out (bvs_one _) ?_))
  intro w4 b4 g4 s4 _
  clear s4
  have hb4 : ∀ B0, B0 ≤ gf → B0 ≤ w.heap.size → Below B0 w w4 := fun B0 h1 h2 => (hb3 B0 h1 h2).grown g4 (Nat.le_trans h2 (hb3 B0 h1 h2).size) (by rintro j ⟨⟩; exact h2)
  go_wp2
  exact ret_cell_tmp ulArr rfl rfl rfl rfl b4 L16.out ⟨rfl, hb4⟩
set_option maxRecDepth 100000 in
set_option maxHeartbeats 1600000 in
theorem unew_empty (gf n c : Nat) (a0 : Option Addr) (tf : TypeId) (w : World) (hn : n < 281474976710656) (hf : Blk w gf (feedC a0 0 c (.iface 67 (.string EOF))) tf) :
    Calls Try.prog 30 #[.int .u64 n, .iface 66 (.pointer (some ⟨gf, 0, none⟩))] w fun e' w' => (∃ (cs : List Value) (msg : ByteArray), e' = .returned (.tuple #[.agg cs.toArray, .iface 67 (.string msg)]) ∧ cs.length = 16 ∧ ∀ u ∈ cs, u.oneCell' = true) ∧ ∀ B0, B0 ≤ gf → B0 ≤ w.heap.size → Below B0 w w' := by
  have hb := Below.refl w.heap.size w
  have hn1 := no_mono (.pointer (some ⟨gf, 0, none⟩))
  have hgl := hf.lt
  have L16z := Lib.hid (show (bvs (be 6 n ++ Z16b.drop 6)).length = 16 by rw [bvs_length, List.length_append, be_length]; rfl)
  have HN := Lib.hid hn
  clear hn
  go_enter Try.func30, Try.ntmps30
  go_wp2_with (refine wp_alloc_blk ulArr hb rfl rfl rfl (Nat.le_refl _) ?_)
  intro w1 b1 g1 s1 hb1
  clear s1
  go_wp2_with (go_at_call 26; refine (setTime_ok _ Z16b _ n _ hb1 b1 (Nat.le_refl _) rfl HN.out).mono ?_)
  rintro e2 w2 ⟨rfl, b2, hb2⟩
  have f2 := hf.kept hb2
  go_wp2_with (first | (go_at_call 37; refine (readFull_empty gf c 10 a0 tf w.heap.size 6 10 _ _ _ f2 (by decide) (by decide) (by decide) b2).mono ?_; rintro e3 w3 ⟨⟨k3, m3, rfl⟩, ⟨cs3, l3, o3, b3⟩, T3⟩; have L3 := Lib.hid (l3.trans L16z.out); have O3 := Lib.hid (fun u hu => (o3 u hu).elim (bvs_one _ u) id); clear l3 o3; have hb3 : ∀ B0, B0 ≤ gf → B0 ≤ w.heap.size → Below B0 w w3 := fun B0 h1 h2 => T3.below (hb2.mono h2) h2 h1; have hb3' : Below 0 w w3 := hb3 0 (Nat.zero_le _) (Nat.zero_le _); clear T3) | (refine wp_load_blk ulArr rfl rfl rfl b3 L3.out ?_) | (refine wp_store_blk ulArr hb3' rfl rfl rfl rfl b3 (Nat.zero_le _) L3.out L3.out O3.out ?_))
  intro w4 b4 g4 s4 _
  clear s4
  have hb4 : ∀ B0, B0 ≤ gf → B0 ≤ w.heap.size → Below B0 w w4 := fun B0 h1 h2 => (hb3 B0 h1 h2).grown g4 (Nat.le_trans h2 (hb3 B0 h1 h2).size) (by rintro j ⟨⟩; exact h2)
  go_wp2
  exact ret_cell_tmp ulArr rfl rfl rfl rfl b4 L3.out ⟨⟨_, _, rfl, L3.out, O3.out⟩, hb4⟩
set_option maxRecDepth 100000 in
set_option maxHeartbeats 1600000 in
theorem unew_short (gf n len c b o : Nat) (bs : List UInt8) (tf : TypeId) (w : World) (hn : n < 281474976710656) (hf : Blk w gf (feedC (some ⟨b, o, none⟩) len c (.iface 67 (.string EOF))) tf) (hr : Rd w (some ⟨b, o, none⟩) bs) (hl : bs.length = len) (h0 : 0 < len) (hm : len < 10) (hlc : len ≤ c) (hc : c ≤ 9223372036854775807) (hbf : b ≠ gf) :
    Calls Try.prog 30 #[.int .u64 n, .iface 66 (.pointer (some ⟨gf, 0, none⟩))] w fun e' w' => (∃ (cs : List Value) (msg : ByteArray), e' = .returned (.tuple #[.agg cs.toArray, .iface 67 (.string msg)]) ∧ cs.length = 16 ∧ ∀ u ∈ cs, u.oneCell' = true) ∧ ∀ B0, B0 ≤ gf → B0 ≤ w.heap.size → Below B0 w w' := by
  have hb := Below.refl w.heap.size w
  have hn1 := no_mono (.pointer (some ⟨gf, 0, none⟩))
  have hgl := hf.lt
  have hbw : b < w.heap.size := by
    obtain ⟨b', o', he, hcc⟩ := hr.2.resolve_left (by intro h; simp [h] at hl; omega)
    obtain rfl : b = b' := by simp at he; exact he.1
    exact World.block_lt_of_cell? w _ (hcc 0 (by omega))
  have HL := Lib.hid hl
  clear hl
  have L16z := Lib.hid (show (bvs (be 6 n ++ Z16b.drop 6)).length = 16 by rw [bvs_length, List.length_append, be_length]; rfl)
  have HN := Lib.hid hn
  clear hn
  go_enter Try.func30, Try.ntmps30
  go_wp2_with (refine wp_alloc_blk ulArr hb rfl rfl rfl (Nat.le_refl _) ?_)
  intro w1 b1 g1 s1 hb1
  clear s1
  go_wp2_with (go_at_call 26; refine (setTime_ok _ Z16b _ n _ hb1 b1 (Nat.le_refl _) rfl HN.out).mono ?_)
  rintro e2 w2 ⟨rfl, b2, hb2⟩
  have f2 := hf.kept hb2
  go_wp2_with (first | (go_at_call 37; refine (readFull_short gf b o len c 10 bs tf w.heap.size 6 10 _ _ _ f2 (hr.kept hb2) HL.out h0 hm (by decide) hlc hc (by decide) b2 (by rw [L16z.out]; decide) (by omega) (by omega) hbf).mono ?_; rintro e3 w3 ⟨⟨k3, m3, rfl⟩, ⟨cs3, l3, o3, b3⟩, T3⟩; have L3 := Lib.hid (l3.trans L16z.out); have O3 := Lib.hid (fun u hu => (o3 u hu).elim (bvs_one _ u) id); clear l3 o3; have hb3 : ∀ B0, B0 ≤ gf → B0 ≤ w.heap.size → Below B0 w w3 := fun B0 h1 h2 => T3.below (hb2.mono h2) h2 h1; have hb3' : Below 0 w w3 := hb3 0 (Nat.zero_le _) (Nat.zero_le _); clear T3) | (refine wp_load_blk ulArr rfl rfl rfl b3 L3.out ?_) | (refine wp_store_blk ulArr hb3' rfl rfl rfl rfl b3 (Nat.zero_le _) L3.out L3.out O3.out ?_))
  intro w4 b4 g4 s4 _
  clear s4
  have hb4 : ∀ B0, B0 ≤ gf → B0 ≤ w.heap.size → Below B0 w w4 := fun B0 h1 h2 => (hb3 B0 h1 h2).grown g4 (Nat.le_trans h2 (hb3 B0 h1 h2).size) (by rintro j ⟨⟩; exact h2)
  go_wp2
  exact ret_cell_tmp ulArr rfl rfl rfl rfl b4 L3.out ⟨⟨_, _, rfl, L3.out, O3.out⟩, hb4⟩
set_option maxRecDepth 100000 in
theorem unew_big (n : Nat) (r : Value) (w : World) (hn : 281474976710655 < n) :
    Calls Try.prog 30 #[.int .u64 n, r] w fun e' w' => (∃ (cs : List Value) (msg : ByteArray), e' = .returned (.tuple #[.agg cs.toArray, .iface 67 (.string msg)]) ∧ cs.length = 16 ∧ ∀ u ∈ cs, u.oneCell' = true) ∧ Below w.heap.size w w' := by
  have hb := Below.refl w.heap.size w
  go_enter Try.func30, Try.ntmps30
  go_wp2_with (refine wp_alloc_blk ulArr hb rfl rfl rfl (Nat.le_refl _) ?_)
  intro w1 b1 g1 s1 hb1
  clear s1
  go_wp2_with (go_at_call 26; refine (setTime_bad _ n _ hn).mono ?_)
  rintro e2 w2 ⟨rfl, rfl⟩
  unfold errBigTime
  go_wp2_with (first | (refine wp_load_blk ulArr rfl rfl rfl b1 rfl ?_) | (refine wp_store_blk ulArr hb1 rfl rfl rfl rfl b1 (Nat.le_refl _) rfl rfl (by decide) ?_))
  intro w4 b4 g4 s4 hb4
  clear s4
  go_wp2
  exact ret_cell_tmp ulArr rfl rfl rfl rfl b4 rfl ⟨⟨_, _, rfl, rfl, by decide⟩, hb4⟩
theorem feedArr : Arr Try.prog 69 2 (feedC none 0 0 .nilIface) where
  und := ⟨_, Try.underlying69, rfl⟩
  size := by kernel_rfl
  zero := fun w => by kernel_rfl
  len := rfl
set_option maxRecDepth 100000 in
set_option maxHeartbeats 1600000 in
theorem ulidMake_ok (n : Nat) (a0 : Option Addr) (x : List UInt8) (len c : Nat) (w : World) (hn : n < 281474976710656) (h0 : Rd w a0 x) (hl : x.length = len) (hm : 10 ≤ len) (hlc : len ≤ c) (hc : c ≤ 9223372036854775807) :
    Calls Try.prog 20 #[.int .u64 n, .slice a0 len c] w fun e' w' => ∃ g, e' = .returned (.tuple #[.slice (some ⟨g, 0, none⟩) 16 16, .bool true]) ∧ Blk w' g (bvs (be 6 n ++ x.take 10)) 50 ∧ Below w.heap.size w w' := by
  have hb := Below.refl w.heap.size w
  obtain ⟨b, o, rfl, hcc⟩ := h0.2.resolve_left (by intro h; simp [h] at hl; omega)
  have hbw : b < w.heap.size := World.block_lt_of_cell? w _ (hcc 0 (by omega))
  clear hcc
  have HL := Lib.hid hl
  have L16 := Lib.hid (show (bvs (be 6 n ++ x.take 10)).length = 16 by rw [bvs_length, List.length_append, be_length, List.length_take, hl]; omega)
  clear hl
  go_enter Try.func20, Try.ntmps20
  go_wp2_with (refine wp_box_blk feedArr hb rfl rfl (cs := feedC _ _ _ (.iface 67 (.string EOF))) rfl rfl (Nat.le_refl _) ?_)
  intro w1 b1 g1 s1 hb1
  have hws : w.heap.size ≤ w1.heap.size := hb1.size
  clear s1
  have r1 := h0.kept hb1
  go_wp2_with (go_at_call 30; refine (unew_ok w.heap.size n len c b o x _ _ _ hn b1 r1 HL.out hm hlc hc (by omega)).mono ?_)
  rintro e2 w2 ⟨rfl, hB2⟩
  have hb2 := hb1.trans (hB2 w.heap.size (Nat.le_refl _) hws)

  go_wp2_with (refine wp_alloc_blk ulArr hb2 rfl rfl rfl hb2.size ?_)
  intro w3 b3 g3 s3 hb3
  clear s3
  go_wp2_with (refine wp_store_blk ulArr hb3 rfl rfl rfl rfl b3 hb2.size rfl L16.out (bvs_one _) ?_)
  intro w4 b4 g4 s4 hb4
  clear s4
  go_wp2_with (first | (refine wp_load_blk ulArr rfl rfl rfl b4 L16.out ?_) | (go_at_call 27; refine (ubytes_ok _ _).mono ?_))
  rintro e w7 ⟨rfl, b7, hb7⟩
  go_wp2
  exact ret_tmp2 rfl rfl rfl rfl ⟨_, rfl, b7, hb4.trans (hb7.mono hb4.size)⟩
set_option maxRecDepth 100000 in
set_option maxHeartbeats 1600000 in
theorem ulidMake_empty (n : Nat) (a0 : Option Addr) (len c : Nat) (w : World) (hn : n < 281474976710656) (h0 : Rd w a0 []) (hl : len = 0) :
    Calls Try.prog 20 #[.int .u64 n, .slice a0 len c] w fun e' w' => e' = .returned (.tuple #[.slice none 0 0, .bool false]) ∧ Below w.heap.size w w' := by
  have hb := Below.refl w.heap.size w
  subst hl
  go_enter Try.func20, Try.ntmps20
  go_wp2_with (refine wp_box_blk feedArr hb rfl rfl (cs := feedC _ _ _ (.iface 67 (.string EOF))) rfl rfl (Nat.le_refl _) ?_)
  intro w1 b1 g1 s1 hb1
  have hws : w.heap.size ≤ w1.heap.size := hb1.size
  clear s1
  have r1 := h0.kept hb1
  go_wp2_with (first | (go_at_call 30; refine (unew_empty w.heap.size n c a0 _ _ hn b1).mono ?_; rintro e2 w2 ⟨⟨cs2, m2, rfl, c2, o2⟩, hB2⟩; have C2 := Lib.hid c2; have O2 := Lib.hid o2; clear c2 o2; have hb2 := hb1.trans (hB2 w.heap.size (Nat.le_refl _) hws)) | (refine wp_alloc_blk ulArr hb2 rfl rfl rfl hb2.size ?_))
  intro w3 b3 g3 s3 hb3
  clear s3
  go_wp2_with (refine wp_store_blk ulArr hb3 rfl rfl rfl rfl b3 hb2.size rfl C2.out O2.out ?_)
  intro w4 b4 g4 s4 hb4
  clear s4
  go_wp2
  exact ret_tmp2 rfl rfl rfl rfl ⟨rfl, hb4⟩
set_option maxRecDepth 100000 in
set_option maxHeartbeats 1600000 in
theorem ulidMake_short (n : Nat) (a0 : Option Addr) (x : List UInt8) (len c : Nat) (w : World) (hn : n < 281474976710656) (h0 : Rd w a0 x) (hl : x.length = len) (hp : 0 < len) (hm : len < 10) (hlc : len ≤ c) (hc : c ≤ 9223372036854775807) :
    Calls Try.prog 20 #[.int .u64 n, .slice a0 len c] w fun e' w' => e' = .returned (.tuple #[.slice none 0 0, .bool false]) ∧ Below w.heap.size w w' := by
  have hb := Below.refl w.heap.size w
  obtain ⟨b, o, rfl, hcc⟩ := h0.2.resolve_left (by intro h; simp [h] at hl; omega)
  have hbw : b < w.heap.size := World.block_lt_of_cell? w _ (hcc 0 (by omega))
  clear hcc
  have HL := Lib.hid hl
  clear hl
  go_enter Try.func20, Try.ntmps20
  go_wp2_with (refine wp_box_blk feedArr hb rfl rfl (cs := feedC _ _ _ (.iface 67 (.string EOF))) rfl rfl (Nat.le_refl _) ?_)
  intro w1 b1 g1 s1 hb1
  have hws : w.heap.size ≤ w1.heap.size := hb1.size
  clear s1
  have r1 := h0.kept hb1
  go_wp2_with (first | (go_at_call 30; refine (unew_short w.heap.size n len c b o x _ _ hn b1 r1 HL.out hp hm hlc hc (by omega)).mono ?_; rintro e2 w2 ⟨⟨cs2, m2, rfl, c2, o2⟩, hB2⟩; have C2 := Lib.hid c2; have O2 := Lib.hid o2; clear c2 o2; have hb2 := hb1.trans (hB2 w.heap.size (Nat.le_refl _) hws)) | (refine wp_alloc_blk ulArr hb2 rfl rfl rfl hb2.size ?_))
  intro w3 b3 g3 s3 hb3
  clear s3
  go_wp2_with (refine wp_store_blk ulArr hb3 rfl rfl rfl rfl b3 hb2.size rfl C2.out O2.out ?_)
  intro w4 b4 g4 s4 hb4
  clear s4
  go_wp2
  exact ret_tmp2 rfl rfl rfl rfl ⟨rfl, hb4⟩
set_option maxRecDepth 100000 in
set_option maxHeartbeats 1600000 in
theorem ulidMake_big (n : Nat) (a0 : Option Addr) (x : List UInt8) (len c : Nat) (w : World) (hn : 281474976710655 < n) (h0 : Rd w a0 x) :
    Calls Try.prog 20 #[.int .u64 n, .slice a0 len c] w fun e' w' => e' = .returned (.tuple #[.slice none 0 0, .bool false]) ∧ Below w.heap.size w w' := by
  have hb := Below.refl w.heap.size w
  go_enter Try.func20, Try.ntmps20
  go_wp2_with (refine wp_box_blk feedArr hb rfl rfl (cs := feedC _ _ _ (.iface 67 (.string EOF))) rfl rfl (Nat.le_refl _) ?_)
  intro w1 b1 g1 s1 hb1
  have hws : w.heap.size ≤ w1.heap.size := hb1.size
  clear s1
  have r1 := h0.kept hb1
  go_wp2_with (first | (go_at_call 30; refine (unew_big n _ _ hn).mono ?_; rintro e2 w2 ⟨⟨cs2, m2, rfl, c2, o2⟩, hB2⟩; have C2 := Lib.hid c2; have O2 := Lib.hid o2; clear c2 o2; have hb2 := hb1.trans (hB2.mono hws)) | (refine wp_alloc_blk ulArr hb2 rfl rfl rfl hb2.size ?_))
  intro w3 b3 g3 s3 hb3
  clear s3
  go_wp2_with (refine wp_store_blk ulArr hb3 rfl rfl rfl rfl b3 hb2.size rfl C2.out O2.out ?_)
  intro w4 b4 g4 s4 hb4
  clear s4
  go_wp2
  exact ret_tmp2 rfl rfl rfl rfl ⟨rfl, hb4⟩
theorem below_drewN' {B : Nat} {w w' : World} (h : Below B w w') (n : Nat) : Below B w (w'.drewN n) := ⟨h.os, h.tape, h.output, h.size, h.block⟩
end Go.Proofs.Ytpnpgckpjlbmdaa
