/- Contracts: a UUID of version 6 of a clock; the time and the sequence in one. -/
import Derived.Test.YtbnkbgbgdolihaaClocks
import Derived.Test.YtbnkbgbgdolihaaUuidApartWalk
namespace Go.Proofs.Ytbnkbgbgdolihaa
open Go.RowKit
set_option linter.unusedVariables false
/-- The bytes of a UUID of version 6. -/
def v6L (now q : Nat) (nd : List UInt8) : List UInt8 := (be 8 now).take 6 ++ [UInt8.ofNat (96 + B (be 8 now) 6 % 16), UInt8.ofNat (B (be 8 now) 7)] ++ be 2 q ++ nd
theorem v6_head_length (now : Nat) : ((be 8 now).take 6).length = 6 := by rw [List.length_take, be_length]; rfl
theorem v6L_length (now q : Nat) (nd : List UInt8) (h : nd.length = 6) : (v6L now q nd).length = 16 := by simp [v6L, be_length, h]
theorem v6_ver (now q : Nat) (nd : List UInt8) : B (v6L now q nd) 6 / 16 = 6 := by
  have e : B (v6L now q nd) 6 = 96 + B (be 8 now) 6 % 16 := by
    unfold v6L
    rw [List.append_assoc, List.append_assoc]
    unfold B
    rw [List.getD_eq_getElem?_getD, List.getElem?_append_right (by rw [v6_head_length]; decide), v6_head_length]
    simp
    omega
  rw [e]
  omega
theorem v6_seq (now q : Nat) (nd : List UInt8) : ((v6L now q nd).drop 8).take 2 = be 2 q := by
  unfold v6L
  rw [List.append_assoc, List.drop_left' (by simp [be_length])]
  exact List.take_left' (be_length 2 _)
theorem v6_q (now s : Nat) (nd : List UInt8) (h : s < 16384) : num (((v6L now (s + 32768) nd).drop 8).take 2) % 16384 = s := by
  have p2 : (256 : Nat) ^ 2 = 65536 := by decide
  rw [v6_seq, num_be7, p2]
  omega
theorem v6_node (now q : Nat) (nd : List UInt8) : (v6L now q nd).drop 10 = nd := by
  unfold v6L
  exact List.drop_left' (by simp [be_length])
theorem v6_var (now s : Nat) (nd : List UInt8) (h : s < 16384) : B (v6L now (s + 32768) nd) 8 / 64 = 2 := by
  have e : B (v6L now (s + 32768) nd) 8 = B (be 2 (s + 32768)) 0 := by
    unfold v6L
    rw [List.append_assoc]
    unfold B
    rw [List.getD_eq_getElem?_getD, List.getElem?_append_right (by simp [be_length]), List.getD_eq_getElem?_getD, List.getElem?_append_left (by simp [be_length])]
    simp [be_length]
  rw [e, B_be 2 (s + 32768) 0 (by decide)]
  omega
theorem v6_time (now q : Nat) (nd : List UInt8) (h : now < 1000000000000000000) : num ((v6L now q nd).take 8) < 9223372036854775808 := by
  have e : (v6L now q nd).take 8 = (be 8 now).take 6 ++ [UInt8.ofNat (96 + B (be 8 now) 6 % 16), UInt8.ofNat (B (be 8 now) 7)] := by
    unfold v6L
    rw [List.append_assoc]
    exact List.take_left' (by simp [be_length])
  have h1 := num_lt [UInt8.ofNat (96 + B (be 8 now) 6 % 16), UInt8.ofNat (B (be 8 now) 7)]
  have p2 : (256 : Nat) ^ 2 = 65536 := by decide
  have p8 : (256 : Nat) ^ 8 = 18446744073709551616 := by decide
  have h2 : num (be 8 now) = num ((be 8 now).take 6) * 65536 + num ((be 8 now).drop 6) := by
    conv => lhs; rw [← List.take_append_drop 6 (be 8 now)]
    rw [num_append, show ((be 8 now).drop 6).length = 2 from by rw [List.length_drop, be_length], p2]
  have h3 := num_be7 8 now
  rw [p8, Nat.mod_eq_of_lt (by omega)] at h3
  rw [e, num_append]
  have h4 : [UInt8.ofNat (96 + B (be 8 now) 6 % 16), UInt8.ofNat (B (be 8 now) 7)].length = 2 := rfl
  rw [h4, p2] at h1
  rw [h4, p2]
  omega
set_option maxRecDepth 100000 in
set_option maxHeartbeats 1600000 in
theorem newV6_ok (gk now q : Nat) (nd : List UInt8) (C C' : List Value) (tC : TypeId) (w : World) (hk : Blk w gk C tC) (hnode : (C'.drop 3).take 6 = bvs nd) (hnd : nd.length = 6) (hnow : now < 1000000000000000000) (hq : q < 65536) (hq2 : q / 256 / 64 = 2)
    (hG : ∀ w1, Blk w1 gk C tC → Calls Try.prog 49 #[.pointer (some ⟨gk, 0, none⟩)] w1 fun e w' => e = .returned (.tuple #[.int .i64 now, .int .u16 q, .nilIface]) ∧ Blk w' gk C' tC ∧ w1.grownBy w' (some gk)) :
    Calls Try.prog 36 #[.pointer (some ⟨gk, 0, none⟩)] w fun e w' => e = .returned (.tuple #[.agg (bvs (v6L now q nd)).toArray, .nilIface]) ∧ Blk w' gk C' tC ∧ w.grownBy w' (some gk) := by
  have hb := Below.refl w.heap.size w
  have hgk := hk.lt
  have LV := Lib.hid (show (bvs (v6L now q nd)).length = 16 by rw [bvs_length, v6L_length _ _ _ hnd])
  obtain ⟨a0, a1, a2, a3, a4, a5, a6, a7, ha⟩ : ∃ a0 a1 a2 a3 a4 a5 a6 a7, be 8 now = [a0, a1, a2, a3, a4, a5, a6, a7] := by
    have := be_length 8 now
    match be 8 now, this with
    | [a0, a1, a2, a3, a4, a5, a6, a7], _ => exact ⟨a0, a1, a2, a3, a4, a5, a6, a7, rfl⟩
  obtain ⟨c0, c1, hc⟩ : ∃ c0 c1, be 2 q = [c0, c1] := by
    have := be_length 2 q
    match be 2 q, this with
    | [c0, c1], _ => exact ⟨c0, c1, rfl⟩
  obtain ⟨A, hA⟩ : ∃ a, a6.toNat = a := ⟨_, rfl⟩
  obtain ⟨C0, hC0⟩ : ∃ a, c0.toNat = a := ⟨_, rfl⟩
  have hAl := a6.toNat_lt
  rw [hA] at hAl
  have hC : C0 / 64 = 2 := by
    have e1 := B_be 2 q 0 (by decide)
    rw [hc] at e1
    have e2 : B [c0, c1] 0 = C0 := hC0
    rw [e2] at e1
    have e3 : C0 = q / 256 % 256 := e1
    omega
  obtain ⟨m, hm⟩ : ∃ m, A % 16 = m := ⟨_, rfl⟩
  obtain ⟨c, hcm⟩ : ∃ c, C0 % 64 = c := ⟨_, rfl⟩
  have hCl : C0 < 256 := by have := c0.toNat_lt; omega
  have f1 : bits .and .u8 (A : Int) 15 = (m : Int) := by
    have := u8_and_nat A 15 (by omega) (by decide)
    rw [and15 A (by omega), hm] at this
    exact this
  have f2 : bits .or .u8 96 (m : Int) = 96 + (m : Int) := by
    have := u8_or_nat 96 m (by decide) (by omega)
    rw [nat_join 4 96 m (by decide) (by omega)] at this
    rw [show (96 : Int) + (m : Int) = ((96 + m : Nat) : Int) by simp]
    exact this
  have f3 : bits .and .u8 (C0 : Int) 63 = (c : Int) := by
    have := u8_and_nat C0 63 (by omega) (by decide)
    rw [and63 C0 (by omega), hcm] at this
    exact this
  have f4 : bits .or .u8 128 (c : Int) = ((128 + c : Nat) : Int) := by
    have := u8_or_nat 128 c (by decide) (by omega)
    rw [nat_join 6 128 c (by decide) (by omega)] at this
    exact this
  have hcc : 128 + c = C0 := by omega
  rw [hcc] at f4
  have hm16 : 96 + m < 256 := by omega
  match nd, hnd with
  | [d0, d1, d2, d3, d4, d5], hnd =>
  obtain ⟨x6, hx6⟩ : ∃ v, UInt8.ofNat (96 + m) = v := ⟨_, rfl⟩
  have HVL : Hid (bvs [a0, a1, a2, a3, a4, a5, x6, a7, c0, c1, d0, d1, d2, d3, d4, d5] = bvs (v6L now q [d0, d1, d2, d3, d4, d5])) := Lib.hid (by
    have e6 : B (be 8 now) 6 % 16 = m := by rw [ha, ← hm, ← hA]; rfl
    have e7 : UInt8.ofNat (B (be 8 now) 7) = a7 := by rw [ha]; simp [B]
    rw [v6L, e6, e7, ha, hc, hx6]
    rfl)
  have H8 : Hid (splice (splice Z16 0 (bvs (be 8 now))) 8 (bvs (be 2 q)) = bvs [a0, a1, a2, a3, a4, a5, a6, a7, c0, c1, 0, 0, 0, 0, 0, 0]) := Lib.hid (by rw [ha, hc]; rfl)
  have e8 : Value.int .u8 (c0.toNat : Nat) = .int .u8 (C0 : Nat) := by rw [hC0]
  have e6 : Value.int .u8 (a6.toNat : Nat) = .int .u8 (A : Nat) := by rw [hA]
  have E6 := Lib.hid e6
  have E8 := Lib.hid e8
  have hS6 : Hid ((bvs [a0, a1, a2, a3, a4, a5, a6, a7, c0, c1, 0, 0, 0, 0, 0, 0]).set 6 (.int .u8 (96 + (m : Int))) = bvs [a0, a1, a2, a3, a4, a5, x6, a7, c0, c1, 0, 0, 0, 0, 0, 0]) := Lib.hid (by rw [show (96 : Int) + (m : Int) = ((96 + m : Nat) : Int) by simp, bvs_set _ 6 (96 + m) hm16, hx6]; rfl)
  have hS8 : Hid ((bvs [a0, a1, a2, a3, a4, a5, x6, a7, c0, c1, 0, 0, 0, 0, 0, 0]).set 8 (.int .u8 (C0 : Int)) = bvs [a0, a1, a2, a3, a4, a5, x6, a7, c0, c1, 0, 0, 0, 0, 0, 0]) := Lib.hid (by rw [← e8]; rfl)
  clear ha hc hm hcm hC hcc hC0 hA e8 e6 hx6
  have LN := Lib.hid hnd
  have HND := Lib.hid hnode
  have HGT := Lib.hid hG
  clear hG hnode hnd
  go_enter Try.func36, Try.ntmps36
  go_wp2_with (refine wp_alloc_blk uuArr hb rfl rfl rfl (Nat.le_refl _) ?_)
  intro w1 b1 g1 s1 hb1
  clear s1
  go_wp2_with (refine wp_alloc_blk uuArr hb1 rfl rfl rfl hb1.size ?_)
  intro w2 b2 g2 s2 hb2
  clear s2
  have b12 := b1.grown g2 (by simp)
  have hs1 : w.heap.size < w1.heap.size := b1.lt
  have k2 := hk.kept hb2
  have G2 : w.grownBy w2 (some gk) := grown_below hb2 _
  generalize w1.heap.size = u at *
  go_wp2_with (go_at_call 49; refine (HGT.out _ k2).mono ?_)
  rintro e w3 ⟨rfl, k3, g3⟩
  have b13 := b12.grown g3 (by intro e; have := Option.some.inj e; omega)
  have b23 := b2.grown g3 (by intro e; have := Option.some.inj e; omega)
  have G3 := grown_trans G2 g3
  have hu : w.heap.size ≤ u := Nat.le_of_lt hs1
  go_wp2_with (go_at_call 52; refine (uu_put64 u 0 16 16 now Z16 _ _ b23 (by decide) (by decide) (by decide)).mono ?_)
  rintro e w4 ⟨rfl, b4, g4, -⟩
  have b14 := b13.grown g4 (by intro e; have := Option.some.inj e; omega)
  have k4 := k3.grown g4 (by intro e; have := Option.some.inj e; omega)
  have G4 := grown_new G3 g4 hu
  go_wp2_with (go_at_call 51; refine (uu_put16 u 8 8 8 q _ _ _ b4 (by decide) (by decide) (by rw [length_splice _ _ _ (by rw [bvs_length, be_length]; decide)]; decide)).mono ?_)
  rintro e w5 ⟨rfl, b5, g5, -⟩
  rw [H8.out] at b5
  have b15 := b14.grown g5 (by intro e; have := Option.some.inj e; omega)
  have k5 := k4.grown g5 (by intro e; have := Option.some.inj e; omega)
  have G5 := grown_new G4 g5 hu
  have ck5 : w5.cell? ⟨u, 6, none⟩ = some (.int .u8 (A : Nat)) := by rw [← E6.out]; exact b5.cell 6
  go_wp2_with (refine wp_store_b rfl rfl (by kernel_rfl) rfl rfl (96 + m) (by omega) b5 (by rw [bvs_length]; simp) ?_)
  intro w6 b6 g6 s6
  rw [hS6.out] at b6
  clear s6 ck5
  have b16 := b15.grown g6 (by intro e; have := Option.some.inj e; omega)
  have k6 := k5.grown g6 (by intro e; have := Option.some.inj e; omega)
  have G6 := grown_new G5 g6 hu
  have ck6 : w6.cell? ⟨u, 8, none⟩ = some (.int .u8 (C0 : Nat)) := by rw [← E8.out]; exact b6.cell 8
  go_wp2_with (refine wp_store_b rfl rfl (by kernel_rfl) rfl rfl C0 (by omega) b6 (by rw [bvs_length]; simp) ?_)
  intro w7 b7 g7 s7
  rw [hS8.out] at b7
  clear s7 ck6
  have b17 := b16.grown g7 (by intro e; have := Option.some.inj e; omega)
  have k7 := k6.grown g7 (by intro e; have := Option.some.inj e; omega)
  have G7 := grown_new G6 g7 hu
  have LL : Hid (splice (bvs [a0, a1, a2, a3, a4, a5, x6, a7, c0, c1, 0, 0, 0, 0, 0, 0]) 10 (bvs [d0, d1, d2, d3, d4, d5]) = bvs [a0, a1, a2, a3, a4, a5, x6, a7, c0, c1, d0, d1, d2, d3, d4, d5]) := Lib.hid rfl
  clear b1 b2 b12 b13 b14 b15 b16 b23 b4 b5 b6 k2 k3 k4 k5 k6 g1 g2 g3 g4 g5 g6 g7 G2 G3 G4 G5 G6 hb1 hb2
  go_wp2_with fail
  refine region_plan (fun w' => Below w7.heap.size w7 w') [(0, 0), (1, 0), (2, 0), (3, 0), (4, 0), (5, 2)] rfl (by kernel_rfl) (by kernel_rfl) rfl (by intro c a d v w h; cases d <;> exact h) (fun _ _ h => h) ?_
  intro w8 hpW hb8
  clear hpW
  simp only [planOps, List.filterMap_cons, List.filterMap_nil, List.getElem?_cons_succ, List.getElem?_cons_zero, Option.map_some]
  have b8 := b7.kept hb8
  have k8 := k7.kept hb8
  have b18 := b17.kept hb8
  have G8 := grown_then G7 hb8
  have r8 := k8.rdPart HND.out LN.out (by decide)
  repeat (first | (refine plan_skip rfl ?_) | (refine plan_still (v := ?_) rfl (fun w' hS => ?_) ?_; rotate_left; (focus (go_simp; first | done | with_reducible rfl))); simp only [Act.put, List.setIfInBounds_toArray, List.set_cons_zero, List.set_cons_succ])
  refine plan_last ?_
  go_wp2_with (refine wp_copy_min (k := 6) rfl rfl Try.underlying22 (by kernel_rfl) rfl rfl b8 [d0, d1, d2, d3, d4, d5] r8 LN.out rfl (by rw [bvs_length]; simp) (by decide) ?_)
  intro w9 b9 g9 s9
  clear s9
  rw [LL.out, HVL.out] at b9
  have b19 := b18.grown g9 (by intro e; have := Option.some.inj e; omega)
  have k9 := k8.grown g9 (by intro e; have := Option.some.inj e; omega)
  have G9 := grown_new G8 g9 hu
  go_wp2
  refine plan_nil ?_
  go_wp2_with (first | (refine wp_load_blk uuArr rfl rfl rfl b9 LV.out ?_) | (refine wp_store_blk uuArr (below_zero w9) rfl rfl rfl rfl b19 (Nat.zero_le _) rfl LV.out (bvs_one _) ?_))
  intro w10 b10 g10 s10 _
  clear s10
  have k10 := k9.grown g10 (by intro e; have := Option.some.inj e; omega)
  have G10 := grown_new G9 g10 (Nat.le_refl _)
  go_wp2
  exact ret_cell_tmp uuArr rfl rfl rfl rfl b10 LV.out ⟨rfl, k10, G10⟩

set_option maxRecDepth 100000 in
theorem utime6_ok (x : List UInt8) (w : World) (hx : x.length = 16) (h7 : B x 6 / 16 = 6) (hv : num (x.take 8) < 9223372036854775808) :
    Calls Try.prog 39 #[.agg (bvs x).toArray] w fun e w' => e = .returned (.int .i64 ((num (x.take 8) : Nat) : Int)) ∧ Below w.heap.size w w' := by
  have hb := Below.refl w.heap.size w
  have L := Lib.hid hx
  have L16 := Lib.hid (show (bvs x).length = 16 by rw [bvs_length, hx])
  have L8 := Lib.hid (show (x.take 8).length = 8 by rw [List.length_take, hx]; rfl)
  have H7 := Lib.hid h7
  clear hx h7
  go_enter Try.func39, Try.ntmps39
  go_wp2_with (refine wp_box_blk uuArr hb rfl rfl rfl rfl (Nat.le_refl _) ?_)
  intro w1 b1 g1 s1 hb1
  clear s1
  go_wp2_with (first | (refine wp_load_blk uuArr rfl rfl rfl b1 L16.out ?_) | (go_at_call 27; refine (version_ok x _ L.out).mono ?_; rw [H7.out]))
  rintro e w2 ⟨rfl, hb2⟩
  have b2 := b1.kept hb2
  have hb12 := hb1.trans (hb2.mono hb1.size)
  have hg := uu_get64 _ 16 (x.take 8) w2 ((b2.rd (by rw [L.out]; decide)).take 8) (by rw [L8.out]; decide)
  rw [L8.out, List.take_take, Nat.min_self] at hg
  obtain ⟨V, hV⟩ : ∃ V, num (x.take 8) = V := ⟨_, rfl⟩
  rw [hV] at hg hv
  have HV := Lib.hid hV
  clear hV
  go_wp2_with (go_at_call 54; refine hg.mono ?_; rintro e w3 ⟨rfl, rfl⟩)
  go_ret
  exact ⟨by rw [HV.out]; go_num, hb12⟩
set_option maxRecDepth 100000 in
theorem uuidTime6_ok (a1 : Option Addr) (x : List UInt8) (c1 : Nat) (w : World) (h1 : Rd w a1 x) (hx : x.length = 16) (h7 : B x 6 / 16 = 6) (hv : num (x.take 8) < 9223372036854775808) :
    Calls Try.prog 23 #[.slice a1 16 c1] w fun e w' => e = .returned (.tuple #[.int .i64 ((num (x.take 8) : Nat) : Int), .int .i64 ((num ((x.drop 8).take 2) % 16384 : Nat) : Int), .bool true]) ∧ Below w.heap.size w w' := by
  have L := Lib.hid hx
  have L16 := Lib.hid (show (bvs x).length = 16 by rw [bvs_length, hx])
  have H7 := Lib.hid h7
  clear hx h7
  go_enter Try.func23, Try.ntmps23
  go_wp2_with (go_at_call 26; refine (uuFromBytes_ok a1 x c1 _ h1 L.out).mono ?_)
  rintro e w2 ⟨rfl, hb2⟩
  go_wp2_with (refine wp_alloc_blk uuArr hb2 rfl rfl rfl hb2.size ?_)
  intro w3 b3 g3 s3 hb3
  clear s3
  go_wp2_with (refine wp_store_blk uuArr hb3 rfl rfl rfl rfl b3 hb2.size rfl L16.out (bvs_one _) ?_)
  intro w4 b4 g4 s4 hb4
  clear s4
  go_wp2_with fail
  refine region_plan (fun w' => Below w4.heap.size w4 w') [(0, 0), (2, 0), (1, 1), (3, 1), (4, 0), (5, 0), (6, 0)] rfl (by kernel_rfl) (by kernel_rfl) rfl (by intro c a d v w h; cases d <;> exact h) (fun _ _ h => h) ?_
  intro w5 hpW hb5
  clear hpW
  simp only [planOps, List.filterMap_cons, List.filterMap_nil, List.getElem?_cons_succ, List.getElem?_cons_zero, Option.map_some]
  repeat (first | (refine plan_still rfl (still_blk uuArr rfl rfl (fun w' hS => b4.kept hS) L16.out) ?_) | (refine plan_skip rfl ?_) | (refine plan_still (v := ?_) rfl (fun w' hS => ?_) ?_; rotate_left; (focus (go_simp; first | done | with_reducible rfl))); simp only [Act.put, List.setIfInBounds_toArray, List.set_cons_zero, List.set_cons_succ])
  refine plan_do ?_
  go_wp2_with (go_at_call 39; refine (utime6_ok x _ L.out H7.out hv).mono ?_)
  rintro e w6 ⟨rfl, hb6⟩
  have hb46 := hb5.trans (hb6.mono hb5.size)
  go_wp2
  refine ⟨hb46, ?_⟩
  repeat (first | (refine plan_still rfl (still_blk uuArr rfl rfl (fun w' hS => b4.kept hS) L16.out) ?_) | (refine plan_skip rfl ?_) | (refine plan_still (v := ?_) rfl (fun w' hS => ?_) ?_; rotate_left; (focus (go_simp; first | done | with_reducible rfl))); simp only [Act.put, List.setIfInBounds_toArray, List.set_cons_zero, List.set_cons_succ])
  refine plan_do ?_
  go_wp2_with (go_at_call 40; refine (useq_ok x _ L.out).mono ?_)
  rintro e w7 ⟨rfl, hb7⟩
  have hb47 := hb46.trans (hb7.mono hb46.size)
  go_wp2
  refine ⟨hb47, ?_⟩
  repeat (first | (refine plan_skip rfl ?_) | (refine plan_still (v := ?_) rfl (fun w' hS => ?_) ?_; rotate_left; (focus (go_simp; first | done | with_reducible rfl))); simp only [Act.put, List.setIfInBounds_toArray, List.set_cons_zero, List.set_cons_succ])
  refine plan_nil ?_
  go_wp2
  exact ret_tmp3 rfl rfl rfl rfl rfl ⟨rfl, hb4.trans (hb47.mono hb4.size)⟩
end Go.Proofs.Ytbnkbgbgdolihaa
