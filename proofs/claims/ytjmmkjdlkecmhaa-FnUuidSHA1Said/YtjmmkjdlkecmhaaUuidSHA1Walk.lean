/- What the law FnUuidSHA1 computes: true. -/
import Derived.Test.YtjmmkjdlkecmhaaShaUuid
import Derived.Test.YtjmmkjdlkecmhaaArgs
namespace Go.Proofs.Ytjmmkjdlkecmhaa
open Go.RowKit
set_option linter.unusedVariables false
set_option linter.unusedSimpArgs false
set_option maxRecDepth 100000 in
theorem newSHA1_ok (x : List UInt8) (a1 : Option Addr) (y : List UInt8) (n c : Nat) (w : World) (hx : x.length = 16) (hr : Rd w a1 y) (hl : y.length = n) (hc : n ≤ c) (hsz : n ≤ 200) :
    Calls Try.prog 14 #[.agg (bvs x).toArray, .slice a1 n c] w fun e w' => e = .returned (.agg (bvs (formL (shaB (x ++ y)) 5)).toArray) ∧ Below w.heap.size w w' := by
  have hb := Below.refl w.heap.size w
  have HX := Lib.hid hx
  have HL := Lib.hid hl
  have LX := Lib.hid (show (bvs x).length = 16 by rw [bvs_length, hx])
  have LL := Lib.hid (show (bvs (formL (shaB (x ++ y)) 5)).length = 16 by rw [bvs_length, formL_length _ 5 (by rw [shaB_length]; decide)])
  have had := fun h0 => rd_addr hr (by rw [hl]; exact h0)
  clear hx hl
  go_enter Try.func14, Try.ntmps14
  go_wp2_with (refine wp_box_blk uuArr hb rfl rfl rfl rfl (Nat.le_refl _) ?_)
  intro w1 b1 g1 s1 hb1
  clear s1
  go_wp2_with (refine wp_alloc_blk uuArr hb1 rfl rfl rfl hb1.size ?_)
  intro w2 b2 g2 s2 hb2
  clear s2
  have b12 := b1.grown g2 (by simp)
  have hq : w.heap.size < w1.heap.size := b1.lt
  have r2 := hr.kept hb2
  clear g1 g2 b1 hr
  generalize hq1 : w1.heap.size = q at *
  clear hq1 hb1
  go_wp2
  refine region_plan (fun w' => Below w2.heap.size w2 w') [(2, 0), (3, 0), (0, 1), (1, 0), (4, 2), (5, 2)] rfl (by kernel_rfl) (by kernel_rfl) rfl (by intro c a d v w h; cases d <;> exact h) (fun _ _ h => h) ?_
  intro w3 hh hb3
  clear hh
  simp only [planOps, List.filterMap_cons, List.filterMap_nil, List.getElem?_cons_succ, List.getElem?_cons_zero, Option.map_some]
  repeat (first | (refine plan_still rfl (still_blk uuArr rfl rfl (fun w' hS => b12.kept hS) LX.out) ?_) | (refine plan_skip rfl ?_) | (refine plan_still (v := ?_) rfl (fun w' hS => ?_) ?_; rotate_left; (focus (go_simp; first | done | with_reducible rfl))); simp only [Act.put, List.setIfInBounds_toArray, List.set_cons_zero, List.set_cons_succ])
  refine plan_do ?_
  have r3 := r2.kept hb3
  have b13 := b12.kept hb3
  have b23 := b2.kept hb3
  have h3 : w.heap.size ≤ w3.heap.size := Nat.le_trans hb2.size hb3.size
  have h23 : w2.heap.size ≤ w3.heap.size := hb3.size
  have hb03 := hb2.trans (hb3.mono hb2.size)
  clear r2 b12 b2
  go_wp2_with (go_at_call 9; refine (shaNew_ok _).mono ?_)
  rintro e w4 ⟨rfl, D4, hb4⟩
  have hb34 := hb3.trans (hb4.mono h23)
  have r4 := r3.kept hb4
  have b14 := b13.kept hb4
  have b24 := b23.kept hb4
  have hb04 := hb03.trans (hb4.mono h3)
  have hq3 := b23.lt
  clear r3 b13 b23 hb4 hb3 hb03
  go_wp2
  refine ⟨hb34, ?_⟩
  repeat (first | (refine plan_skip rfl ?_) | (refine plan_still (v := ?_) rfl (fun w' hS => ?_) ?_; rotate_left; (focus (go_simp; first | done | with_reducible rfl))); simp only [Act.put, List.setIfInBounds_toArray, List.set_cons_zero, List.set_cons_succ])
  refine plan_last ?_
  generalize w3.heap.size = N at *
  go_wp2_with (go_at_call 20; refine (newHash_ok N [] 0 _ x a1 y n c _ D4 HX.out r4 HL.out hc hsz (fun q hq h0 => by have := (had h0 q hq).2; omega)).mono ?_)
  rintro e w5 ⟨rfl, g5⟩
  have hb5 := hb04.grown g5 hb04.size (by rintro j ⟨⟩; exact h3)
  have b25 := b24.grown g5 (by intro e; have := Option.some.inj e; omega)
  clear D4 r4 b14 b24 g5 hb34
  go_wp2
  refine plan_last ?_
  go_wp2_with (refine wp_store_blk uuArr hb5 rfl rfl rfl rfl b25 (Nat.le_of_lt hq) rfl LL.out (bvs_one _) ?_)
  intro w6 b6 g6 s6 hb6
  clear s6
  go_wp2
  refine plan_nil ?_
  go_wp2
  exact ret_cell uuArr rfl rfl rfl b6 LL.out ⟨rfl, hb6⟩
set_option maxRecDepth 100000 in
theorem uuidSHA1_ok (a0 : Option Addr) (x : List UInt8) (c0 : Nat) (a1 : Option Addr) (y : List UInt8) (n c : Nat) (w : World) (h0 : Rd w a0 x) (hx : x.length = 16) (hr : Rd w a1 y) (hl : y.length = n) (hc : n ≤ c) (hsz : n ≤ 200) :
    Calls Try.prog 6 #[.slice a0 16 c0, .slice a1 n c] w fun e w' => ∃ v, e = .returned (.tuple #[v, .bool true]) ∧ OwnB w' w.heap.size 5 v (formL (shaB (x ++ y)) 5) ∧ Below w.heap.size w w' := by
  have hb := Below.refl w.heap.size w
  have HX := Lib.hid hx
  have HL := Lib.hid hl
  have LX := Lib.hid (show (bvs x).length = 16 by rw [bvs_length, hx])
  have LL := Lib.hid (formL_length (shaB (x ++ y)) 5 (by rw [shaB_length]; decide))
  clear hx hl
  go_enter Try.func6, Try.ntmps6
  go_wp2_with (go_at_call 12; refine (uuFromBytes_ok a0 x c0 _ h0 HX.out).mono ?_)
  rintro e w1 ⟨rfl, hb1⟩
  have r1 := hr.kept hb1
  clear h0 hr
  go_wp2_with (refine wp_alloc_blk uuArr hb1 rfl rfl rfl hb1.size ?_)
  intro w2 b2 g2 s2 hb2
  clear s2
  go_wp2_with (refine wp_store_blk uuArr hb2 rfl rfl rfl rfl b2 hb1.size rfl LX.out (bvs_one _) ?_)
  intro w3 b3 g3 s3 hb3
  have r3 : Rd w3 a1 y := r1.kept ((below_grown g2).grown g3 (below_grown g2).size (by rintro j ⟨⟩; exact Nat.le_refl _))
  clear s3 b2 g2 g3 r1
  go_wp2_with (first | (refine wp_load_blk uuArr rfl rfl rfl b3 LX.out ?_) | (go_at_call 14; refine (newSHA1_ok x a1 y n c _ HX.out r3 HL.out hc hsz).mono ?_; rintro e w4 ⟨rfl, hb4⟩; have hb04 := hb3.trans (hb4.mono hb3.size)) | (go_at_call 13; refine (bytesOf_ok _ _ LL.out).mono ?_))
  rintro e w5 ⟨v5, rfl, o5, hb5⟩
  go_wp2
  exact ret_tmp2 rfl rfl rfl rfl ⟨v5, rfl, ⟨o5.1, o5.2.imp id (fun ⟨g, cap, cur, e1, e2, e3⟩ => ⟨g, cap, cur, e1, Nat.le_trans hb04.size e2, e3⟩)⟩, hb04.trans (hb5.mono hb04.size)⟩
theorem join_at2 {a1 a2 : Option Addr} {n1 n2 c1 c2 : Nat} (x y : List UInt8) {w : World} (h1 : Rd w a1 x) (h2 : Rd w a2 y) (e1 : x.length = n1) (e2 : y.length = n2) (hl : n1 + n2 ≤ 140737488355328) (h0 : 0 < n1 + n2) :
    Calls Try.prog 5 #[.slice a1 n1 c1, .slice a2 n2 c2] w fun e w' => ∃ g cap, e = .returned (.slice (some ⟨g, 0, none⟩) (n1 + n2) cap) ∧ Rd w' (some ⟨g, 0, none⟩) (x ++ y) ∧ n1 + n2 ≤ cap ∧ Below w.heap.size w w' := by
  subst e1 e2
  refine (join_any a1 a2 x y c1 c2 w h1 h2 hl).mono ?_
  rintro e w' ⟨v, rfl, ho, hb⟩
  obtain ⟨g, cap, more, rfl, hB, -, hc⟩ := ho.blkC (by rw [List.length_append]) h0
  exact ⟨g, cap, rfl, hB.rdMore (by rw [List.length_append]; omega), hc, hb⟩
set_option maxRecDepth 100000 in
theorem uuidSHA1_walk (a0 : Option Addr) (x0 : List UInt8) (c0 : Nat) (a1 : Option Addr) (x1 : List UInt8) (c1 : Nat) (w : World) (h0 : Rd w a0 x0) (hc0 : x0.length ≤ c0) (hm0 : c0 ≤ 9223372036854775807) (h1 : Rd w a1 x1) (hc1 : x1.length ≤ c1) (hm1 : c1 ≤ 9223372036854775807) :
    Calls Try.prog 3 #[.slice a0 x0.length c0, .slice a1 x1.length c1] w fun e w' => e = .returned (.bool true) ∧ Below w.heap.size w w' := by
  have hb := Below.refl w.heap.size w
  obtain ⟨n0, hn0⟩ : ∃ n, x0.length = n := ⟨_, rfl⟩
  obtain ⟨n1, hn1⟩ : ∃ n, x1.length = n := ⟨_, rfl⟩
  rw [hn0] at hc0 ⊢
  rw [hn1] at hc1 ⊢
  have HN0 := Lib.hid hn0
  have HN1 := Lib.hid hn1
  clear hn0 hn1
  by_cases hbig : 2147483647 < n0 ∨ 2147483647 < n1
  · by_cases hb0 : 2147483647 < n0
    · have e0 : decide ((2147483647 : Int) < (n0 : Int)) = true := by simp; omega
      go_enter Try.func3, Try.ntmps3
      go_wp2
      go_ret
      exact ⟨rfl, hb⟩
    · have hb1 := hbig.resolve_left hb0
      have e0 : decide ((2147483647 : Int) < (n0 : Int)) = false := by simp; omega
      have e1 : decide ((2147483647 : Int) < (n1 : Int)) = true := by simp; omega
      go_enter Try.func3, Try.ntmps3
      go_wp2
      go_ret
      exact ⟨rfl, hb⟩
  · have e0 : decide ((2147483647 : Int) < (n0 : Int)) = false := by simp; omega
    have e1 : decide ((2147483647 : Int) < (n1 : Int)) = false := by simp; omega
    by_cases hs0 : n0 = 16
    · subst hs0
      by_cases hs1 : 200 < n1
      · have e2 : decide ((200 : Int) < (n1 : Int)) = true := by simp; omega
        go_enter Try.func3, Try.ntmps3
        go_wp2
        go_ret
        exact ⟨rfl, hb⟩
      · have e2 : decide ((200 : Int) < (n1 : Int)) = false := by simp; omega
        have H0 := Lib.hid h0
        have H1 := Lib.hid h1
        clear h0 h1
        go_enter Try.func3, Try.ntmps3
        go_wp2_with (go_at_call 5; refine (join_at2 x0 x1 H0.out H1.out HN0.out HN1.out (by omega) (by omega)).mono ?_; rintro e w1 ⟨aj, cj, rfl, rj, hcj, hb1⟩)
        have HJ := Lib.hid (show (x0 ++ x1).length = 16 + n1 by rw [List.length_append, HN0.out, HN1.out])
        have H0' := Lib.hid (H0.out.kept hb1)
        have H1' := Lib.hid (H1.out.kept hb1)
        clear H0 H1
        go_wp2_with (go_at_call 4; refine (sumSHA1_ok _ (x0 ++ x1) _ _ _ rj HJ.out hcj (by omega)).mono ?_)
        rintro e w2 ⟨v2, rfl, o2, hb2⟩
        obtain ⟨g2, c2, mo2, rfl, B2, -, hc2⟩ := o2.blkC (shaB_length _) (by decide)
        have hb02 := hb1.trans (hb2.mono hb1.size)
        have H0 := Lib.hid (H0'.out.kept hb2)
        have H1 := Lib.hid (H1'.out.kept hb2)
        clear H0' H1' rj hb1 hb2 o2
        generalize hz : shaB (x0 ++ x1) = z at *
        have HZ := Lib.hid hz
        have HZ20 := Lib.hid (show z.length = 20 by rw [← hz, shaB_length])
        clear hz
        go_wp2_with (go_at_call 6; refine (uuidSHA1_ok a0 x0 c0 a1 x1 n1 c1 _ H0.out HN0.out H1.out HN1.out hc1 (by omega)).mono ?_)
        rintro e w3 ⟨v3, rfl, o3, hb3⟩
        rw [HZ.out] at o3
        have LF := Lib.hid (formL_length z 5 (by rw [HZ20.out]; decide))
        obtain ⟨g3, c3, mo3, rfl, B3, -, hc3⟩ := o3.blkC LF.out (by decide)
        have hb03 := hb02.trans (hb3.mono hb02.size)
        have r2 : Rd w3 (some ⟨g2, 0, none⟩) z := (B2.kept hb3).rdMore (by rw [HZ20.out]; decide)
        have r3 : Rd w3 (some ⟨g3, 0, none⟩) (formL z 5) := B3.rdMore (by rw [LF.out]; decide)
        clear B2 B3 hb3 o3 hb02
        go_wp2_with (go_at_call 8; refine (form_ok _ z 20 c2 5 _ r2 HZ20.out (by decide) hc2 (by decide)).mono ?_)
        rintro e w4 ⟨a4, c4, rfl, r4, hb4, -⟩
        have r34 := r3.kept hb4
        have hb04 := hb03.trans (hb4.mono hb03.size)
        clear r2 r3 hb4 hb03
        go_wp2_with (go_at_call 7; refine (same_eq r34 r4 LF.out LF.out).mono ?_)
        rintro e w5 ⟨rfl, k5, rfl⟩
        go_wp2
        go_ret
        exact ⟨rfl, below_drewN hb04 _⟩
    · have e3 : ((n0 : Int) != 16) = true := by rw [bne_iff_ne]; omega
      go_enter Try.func3, Try.ntmps3
      go_wp2
      go_ret
      exact ⟨rfl, hb⟩
end Go.Proofs.Ytjmmkjdlkecmhaa
