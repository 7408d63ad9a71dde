/- Contracts: the SHA-1 sum of some bytes, and a UUID of version 5. -/
import Derived.Test.YtjmmkjdlkecmhaaShaFn
import Derived.Test.YtjmmkjdlkecmhaaFormFn
namespace Go.Proofs.Ytjmmkjdlkecmhaa
open Go.RowKit
set_option linter.unusedVariables false
set_option linter.unusedSimpArgs false
theorem dg_nil (m : String) (a : Addr) (w : World) (h : m = "Reset" ∨ m = "Write" ∨ m = "Sum") : (nilAhead 183 29 (.pointer (some a)) m).run Try.prog w = .ok (some false) w := by
  rcases h with rfl | rfl | rfl <;> kernel_rfl
theorem dg_reset (a : Addr) (w : World) : (method 183 29 (.pointer (some a)) "Reset").run Try.prog w = .ok (16, .pointer (some a)) w := by kernel_rfl
theorem dg_write (a : Addr) (w : World) : (method 183 29 (.pointer (some a)) "Write").run Try.prog w = .ok (10, .pointer (some a)) w := by kernel_rfl
theorem dg_sum (a : Addr) (w : World) : (method 183 29 (.pointer (some a)) "Sum").run Try.prog w = .ok (11, .pointer (some a)) w := by kernel_rfl

set_option maxRecDepth 100000 in
theorem sumSHA1_ok (a1 : Option Addr) (p : List UInt8) (n c : Nat) (w : World) (hr : Rd w a1 p) (hl : p.length = n) (hc : n ≤ c) (hsz : n ≤ 1000) :
    Calls Try.prog 4 #[.slice a1 n c] w fun e w' => ∃ v, e = .returned v ∧ OwnB w' w.heap.size 5 v (shaB p) ∧ Below w.heap.size w w' := by
  have hsp := fun h0 => rd_addr hr (by rw [hl]; exact h0)
  have HL := Lib.hid hl
  clear hl
  go_enter Try.func4, Try.ntmps4
  go_wp2_with (go_at_call 9; refine (shaNew_ok _).mono ?_)
  rintro e w1 ⟨rfl, D1, hb1⟩
  have r1 := hr.kept hb1
  have D1' : Dg w1 w.heap.size [] ([] : List UInt8).length 48 := D1
  clear D1
  go_wp2_with (go_at_call 10; refine (write_ok _ [] _ a1 p n c _ D1' r1 HL.out hc (by simp; omega) (fun q hq h0 => ⟨(hsp h0 q hq).1, by have := (hsp h0 q hq).2; omega⟩)).mono ?_)
  rintro e w2 ⟨rfl, D2, g2⟩
  have hb2 := hb1.grown g2 hb1.size (by rintro j ⟨⟩; exact Nat.le_refl _)
  have D2' : Dg w2 w.heap.size p p.length 48 := D2
  have HP := Lib.hid (show p.length ≤ 1000 by rw [HL.out]; exact hsz)
  clear D2 D1' r1 g2
  go_wp2_with (go_at_call 11; refine (shaSum_ok _ p _ _ D2' HP.out).mono ?_)
  rintro e w3 ⟨v, rfl, o3, hb3⟩
  go_wp2
  go_ret
  exact ⟨v, rfl, ⟨o3.1, o3.2.imp id (fun ⟨g, cap, cur, e1, e2, e3⟩ => ⟨g, cap, cur, e1, Nat.le_trans hb2.size e2, e3⟩)⟩, hb2.trans (hb3.mono hb2.size)⟩

set_option maxRecDepth 100000 in
set_option maxHeartbeats 1600000 in
theorem newHash_ok (gd : Nat) (m0 : List UInt8) (len0 : Nat) (td : TypeId) (x : List UInt8) (a1 : Option Addr) (y : List UInt8) (n c : Nat) (w : World) (hD : Dg w gd m0 len0 td) (hx : x.length = 16) (hr : Rd w a1 y) (hl : y.length = n) (hc : n ≤ c) (hsz : n ≤ 200) (hne : ∀ q, a1 = some q → 0 < n → q.block ≠ gd) :
    Calls Try.prog 20 #[.iface 29 (.pointer (some ⟨gd, 0, none⟩)), .agg (bvs x).toArray, .slice a1 n c, .int .i64 5] w fun e w' => e = .returned (.agg (bvs (formL (shaB (x ++ y)) 5)).toArray) ∧ w.grownBy w' (some gd) := by
  have hb := Below.refl w.heap.size w
  have hsp := fun h0 => rd_addr hr (by rw [hl]; exact h0)
  have hgd := hD.head
  obtain ⟨x0, hx0, -, hB0⟩ := hD
  generalize sums m0 = h0 at *
  generalize m0.length % 64 = nx0 at *
  have HX0 := Lib.hid hx0
  have LX := Lib.hid (show (bvs x).length = 16 by rw [bvs_length, hx])
  have HX := Lib.hid hx
  have HL := Lib.hid hl
  obtain ⟨z, hz⟩ : ∃ z, shaB (x ++ y) = z := ⟨_, rfl⟩
  have hz20 : z.length = 20 := by rw [← hz, shaB_length]
  have L16 := Lib.hid (show (z.take 16).length = 16 by rw [List.length_take]; omega)
  have LF := Lib.hid (form6_length z 5 (by omega))
  have LL := Lib.hid (show (bvs (formL z 5)).length = 16 by rw [bvs_length, formL_length z 5 (by omega)])
  have hb6 := B_lt z 6
  have hb8 := B_lt z 8
  have f1 := u8_and_nat (B z 6) 15 hb6 (by decide)
  rw [and15 _ hb6] at f1
  have f2 := u8_or_nat (B z 6 % 16) (16 * 5) (by omega) (by omega)
  rw [or_ver _ _ hb6] at f2
  have f3 := u8_and_nat (B z 8) 63 hb8 (by decide)
  rw [and63 _ hb8] at f3
  have f4 := u8_or_nat (B z 8 % 64) 128 (by omega) (by decide)
  rw [or_var] at f4
  have F1 : bits .and .u8 (B z 6 : Int) 15 = ((B z 6 % 16 : Nat) : Int) := f1
  have F2 : bits .or .u8 ((B z 6 % 16 : Nat) : Int) 80 = ((B z 6 % 16 + 16 * 5 : Nat) : Int) := f2
  have F3 : bits .and .u8 (B z 8 : Int) 63 = ((B z 8 % 64 : Nat) : Int) := f3
  have F4 : bits .or .u8 ((B z 8 % 64 : Nat) : Int) 128 = ((B z 8 % 64 + 128 : Nat) : Int) := f4
  have F5 : bits .and .i64 5 15 = 5 := by decide
  have HSet6 : Hid ((bvs (z.take 16)).set 6 (.int .u8 ((B z 6 % 16 + 16 * 5 : Nat) : Int)) = bvs (form6 z 5)) := Lib.hid (by rw [bvs_set _ _ _ (by omega)]; rfl)
  have HSet8 : Hid ((bvs (form6 z 5)).set 8 (.int .u8 ((B z 8 % 64 + 128 : Nat) : Int)) = bvs (formL z 5)) := Lib.hid (by rw [bvs_set _ _ _ (by omega)]; rfl)
  have HB8 := Lib.hid (form6_B8 z 5)
  have HZ := Lib.hid hz
  have HZ20 := Lib.hid hz20
  clear f1 f2 f3 f4 hz hz20 hx hx0 hl
  generalize hm6 : B z 6 % 16 + 16 * 5 = m6 at *
  generalize hm8 : B z 8 % 64 + 128 = m8 at *
  have hm6l : m6 < 256 := by omega
  have hm8l : m8 < 256 := by omega
  clear hm6 hm8
  generalize B z 6 % 16 = d6 at *
  generalize B z 8 % 64 = d8 at *
  have n1 := fun w => dg_nil "Reset" ⟨gd, 0, none⟩ w (.inl rfl)
  have n2 := fun w => dg_nil "Write" ⟨gd, 0, none⟩ w (.inr (.inl rfl))
  have n3 := fun w => dg_nil "Sum" ⟨gd, 0, none⟩ w (.inr (.inr rfl))
  have m1 := dg_reset ⟨gd, 0, none⟩
  have m2 := dg_write ⟨gd, 0, none⟩
  have m3 := dg_sum ⟨gd, 0, none⟩
  go_enter Try.func20, Try.ntmps20
  go_wp2_with (refine wp_box_blk uuArr hb rfl rfl rfl rfl (Nat.le_refl _) ?_)
  intro w1 b1 g1 s1 hb1
  clear s1
  go_wp2_with (refine wp_alloc_blk uuArr hb1 rfl rfl rfl hb1.size ?_)
  intro w2 b2 g2 s2 hb2
  clear s2
  have b12 := b1.grown g2 (by simp)
  have hq : w.heap.size < w1.heap.size := b1.lt
  have hB2 := hB0.kept hb2
  have r2 := hr.kept hb2
  have G2 : w.grownBy w2 (some gd) := grown_below hb2 _
  clear g1 g2 b1 hB0 hr
  generalize hq1 : w1.heap.size = q at *
  clear hq1 hb1
  go_wp2_with (go_at_call 16; refine (reset_ok gd h0 x0 nx0 len0 td _ HX0.out hB2).mono ?_)
  rintro e w3 ⟨rfl, D3, g3⟩
  have b13 := b12.grown g3 (by intro e; have := Option.some.inj e; omega)
  have b23 := b2.grown g3 (by intro e; have := Option.some.inj e; omega)
  have r3 : Rd w3 a1 y := rd_grown r2 g3 (fun q hq h0 => hne q hq (by rw [HL.out] at h0; exact h0))
  have G3 := grown_trans G2 g3
  have h3 : w.heap.size ≤ w3.heap.size := G3.size
  clear b12 b2 hB2 r2 g3 G2
  go_wp2
  refine region_plan (fun w' => Below w3.heap.size w3 w') [(0, 0), (1, 0), (2, 1), (3, 0), (4, 0), (5, 2)] rfl (by kernel_rfl) (by kernel_rfl) rfl (by intro c a d v w h; cases d <;> exact h) (fun _ _ h => h) ?_
  intro w4 hh hb4
  simp only [planOps, List.filterMap_cons, List.filterMap_nil, List.getElem?_cons_succ, List.getElem?_cons_zero, Option.map_some]
  repeat (first | (refine plan_skip rfl ?_) | (refine plan_still (v := ?_) rfl (fun w' hS => ?_) ?_; rotate_left; (focus (go_simp; first | done | with_reducible rfl))); simp only [Act.put, List.setIfInBounds_toArray, List.set_cons_zero, List.set_cons_succ])
  refine plan_do ?_
  go_wp2
  refine ⟨hb4, ?_⟩
  repeat (first | (refine plan_skip rfl ?_) | (refine plan_still (v := ?_) rfl (fun w' hS => ?_) ?_; rotate_left; (focus (go_simp; first | done | with_reducible rfl))); simp only [Act.put, List.setIfInBounds_toArray, List.set_cons_zero, List.set_cons_succ])
  refine plan_last ?_
  obtain ⟨D4x, D4l, D4t, D4B⟩ := D3
  have D4 : Dg w4 gd [] ([] : List UInt8).length td := ⟨D4x, D4l, D4t, D4B.kept hb4⟩
  clear D4B D4t D4l
  have rx4 := (b13.kept hb4).rd (by rw [HX.out]; decide)
  have b14 := b13.kept hb4
  have b24 := b23.kept hb4
  have r4 := r3.kept hb4
  have G4 := grown_trans G3 (grown_below hb4 _)
  clear b13 b23 r3 hb4 G3 hh
  go_wp2_with (go_at_call 10; refine (write_ok gd [] td (some ⟨w.heap.size, 0, none⟩) x 16 16 _ D4 rx4 HX.out (by decide) (by decide) (fun q hq _ => by cases hq; exact ⟨rfl, by show w.heap.size ≠ gd; omega⟩)).mono ?_)
  rintro e w5 ⟨rfl, D5, g5⟩
  have D5' : Dg w5 gd x x.length td := D5
  have b25 := b24.grown g5 (by intro e; have := Option.some.inj e; omega)
  have r5 : Rd w5 a1 y := rd_grown r4 g5 (fun q hq h0 => hne q hq (by rw [HL.out] at h0; exact h0))
  have G5 := grown_trans G4 g5
  clear D5 D4 rx4 b14 b24 r4 g5 G4
  go_wp2
  refine plan_nil ?_
  go_wp2_with (go_at_call 10; refine (write_ok gd x td a1 y n c _ D5' r5 HL.out hc (by rw [HX.out]; omega) (fun q hq h0 => ⟨(hsp h0 q hq).1, hne q hq h0⟩)).mono ?_)
  rintro e w6 ⟨rfl, D6, g6⟩
  have b26 := b25.grown g6 (by intro e; have := Option.some.inj e; omega)
  have G6 := grown_trans G5 g6
  have HXY : Hid ((x ++ y).length ≤ 1000) := Lib.hid (by rw [List.length_append, HX.out, HL.out]; omega)
  clear D5' b25 r5 g6 G5
  go_wp2_with (go_at_call 11; refine (shaSum_ok gd (x ++ y) td _ D6 HXY.out).mono ?_)
  rintro e w7 ⟨v7, rfl, o7, hb7⟩
  rw [HZ.out] at o7
  obtain ⟨g7, c7, mo7, rfl, B7, hg7, hc7⟩ := o7.blkC HZ20.out (by decide)
  have b27 := b26.kept hb7
  have G7 := grown_trans G6 (grown_below hb7 _)
  have h7 : w.heap.size ≤ w7.heap.size := G7.size
  have hq7 := b27.lt
  clear b26 hb7 G6 D6 o7
  go_wp2_with (refine wp_alloc_blk uuArr (Below.refl w7.heap.size w7) rfl rfl rfl (Nat.le_refl _) ?_)
  intro w8 b8 g8 s8 hb8
  have r8 : Rd w8 (some ⟨g7, 0, none⟩) z := (B7.kept hb8).rdMore (by rw [HZ20.out]; decide)
  have b28 := b27.kept hb8
  have G8 := grown_trans G7 (grown_below hb8 _)
  clear s8 B7 b27 G7 g8 hb8
  generalize w7.heap.size = N at *
  go_wp2_with (refine wp_copy_min (k := 16) rfl rfl Try.underlying22 (by kernel_rfl) rfl rfl b8 z r8 HZ20.out (by decide) (by decide) (by decide) ?_)
  intro w9 b9 g9 s9
  clear s9
  rw [splice_whole _ _ (by rw [bvs_length, L16.out]; rfl)] at b9
  have b29 := b28.grown g9 (by intro e; have := Option.some.inj e; omega)
  have G9 := grown_new G8 g9 h7
  clear b28 b8 r8 G8 g9
  have c6 := b9.cell 6
  rw [bvs_get _ _ (by rw [L16.out]; decide), B_take _ _ _ (by decide)] at c6
  have hi6 : 6 < (bvs (z.take 16)).length := by rw [bvs_length, L16.out]; decide
  go_wp2_with (refine wp_store_cell rfl rfl (by kernel_rfl) rfl rfl rfl b9 hi6 ?_)
  intro w10 b10 g10 s10
  clear s10
  rw [HSet6.out] at b10
  have b210 := b29.grown g10 (by intro e; have := Option.some.inj e; omega)
  have G10 := grown_new G9 g10 h7
  have c8 := b10.cell 8
  rw [bvs_get _ _ (by rw [LF.out]; decide), HB8.out] at c8
  have hi8 : 8 < (bvs (form6 z 5)).length := by rw [bvs_length, LF.out]; decide
  clear c6 hi6 b9 b29 G9 g10
  go_wp2_with (refine wp_store_cell rfl rfl (by kernel_rfl) rfl rfl rfl b10 hi8 ?_)
  intro w11 b11 g11 s11
  clear s11
  rw [HSet8.out] at b11
  have b211 := b210.grown g11 (by intro e; have := Option.some.inj e; omega)
  have G11 := grown_new G10 g11 h7
  clear c8 hi8 b10 b210 G10 g11
  go_wp2_with (first | (refine wp_load_blk uuArr rfl rfl rfl b11 LL.out ?_) | (refine wp_store_blk uuArr ((Below.refl w11.heap.size w11).mono (Nat.zero_le _)) rfl rfl rfl rfl b211 (Nat.zero_le _) rfl LL.out (bvs_one _) ?_))
  intro w12 b12 g12 s12 _
  clear s12
  have G12 := grown_new G11 g12 (Nat.le_of_lt hq)
  go_wp2
  refine ret_cell uuArr rfl rfl rfl b12 LL.out ?_
  rw [HZ.out]
  exact ⟨rfl, G12⟩
end Go.Proofs.Ytjmmkjdlkecmhaa
