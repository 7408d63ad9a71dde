/- The law FnUuidApart returns true, and turns nothing that was there. -/
import Derived.Test.YtbnkbgbgdolihaaUuidApartLaw
namespace Go.Proofs.Ytbnkbgbgdolihaa
open Go.RowKit
set_option linter.unusedVariables false
theorem v1s_getD (r0 r1 : UInt8) (nd : List UInt8) (ts : List Nat) (n k : Nat) (h : k < n) : (v1s r0 r1 nd ts n).getD k [] = v1L (stampOf (ts.getD k 0)) (csAt r0 r1 ts (k + 1)) nd := by simp [v1s, h]
theorem apart7_ok (at_ ar an ab : Option Addr) (zs : List Int) (r nd x : List UInt8) (n ct cr cn cb : Nat) (w : World) (hT : RdI .i64 w at_ zs) (hn : zs.length = n) (htim : (zs.all timeOk && decide (zs.length ≤ 12)) = true)
    (hr : Rd w ar r) (hrl : r.length = 2) (hnd : Rd w an nd) (hnl : nd.length = 6) (hx : Rd w ab x) (hxl : x.length = 16) (hcb : 16 ≤ cb) (hcb2 : cb ≤ 9223372036854775807) (hcr : 2 ≤ cr) (hcn : 6 ≤ cn) :
    Calls Try.prog 7 #[.int .i64 7, .slice at_ n ct, .slice ar 2 cr, .slice an 6 cn, .slice ab 16 cb] w fun e w' => e = .returned (.bool true) ∧ Below w.heap.size w w' := by
  obtain ⟨ts, hz, hts, h12⟩ := times_of htim
  have h16 : 16 ≤ x.length := by omega
  refine apart_main7 at_ ar an ab zs (v7s x ts n) n ct cr cn cb w hT hn (by omega) htim (v7s_length x ts n) (uuidClock7_ok at_ ar an ab zs ts r nd x n ct cr cn cb w hT hn hz hts (by omega) hr hrl hnd hnl hx hxl hcb hcb2 hcr hcn) ?_ ?_ ?_ ?_
  · intro j hj; rw [v7s_getD x ts n j hj]; exact v7L_length x _ h16
  · intro j hj; rw [v7s_getD x ts n j hj]; exact v7_ver x _
  · intro j hj; rw [v7s_getD x ts n j hj]; exact v7_var x _ h16
  · intro i j hij hj; rw [v7s_getD x ts n j hj, v7s_getD x ts n i (by omega)]; exact v7_apart x ts h16 hts i j hij (by omega)
theorem apart1_ok (at_ ar an ab : Option Addr) (zs : List Int) (r nd : List UInt8) (n ct cr cn cb : Nat) (w : World) (hT : RdI .i64 w at_ zs) (hn : zs.length = n) (htim : (zs.all timeOk && decide (zs.length ≤ 12)) = true)
    (hr : Rd w ar r) (hrl : r.length = 2) (hnd : Rd w an nd) (hnl : nd.length = 6) (hcr : 2 ≤ cr) (hcn : 6 ≤ cn) :
    Calls Try.prog 7 #[.int .i64 1, .slice at_ n ct, .slice ar 2 cr, .slice an 6 cn, .slice ab 16 cb] w fun e w' => e = .returned (.bool true) ∧ Below w.heap.size w w' := by
  obtain ⟨ts, hz, hts, h12⟩ := times_of htim
  match r, hrl, hr with
  | [r0, r1], _, hr =>
  match nd, hnl, hnd with
  | [n0, n1, n2, n3, n4, n5], _, hnd =>
  refine apart_main1 at_ ar an ab zs (v1s r0 r1 [n0, n1, n2, n3, n4, n5] ts n) n ct cr cn cb w hT hn (by omega) htim (v1s_length r0 r1 _ ts n) (uuidClock1_ok at_ ar an _ zs ts r0 r1 n0 n1 n2 n3 n4 n5 n ct cr cn w hT hn hz hts (by omega) hr hnd hcr hcn) ?_ ?_ ?_ ?_
  · intro j hj; rw [v1s_getD _ _ _ ts n j hj]; exact v1L_length _ _ _ rfl
  · intro j hj; rw [v1s_getD _ _ _ ts n j hj]; exact v1_ver _ _ _
  · intro j hj
    have e : csAt r0 r1 ts (j + 1) = sAt r0 r1 ts (j + 1) + 32768 := by simp [csAt]
    rw [v1s_getD _ _ _ ts n j hj, e]; exact v1_var _ _ _ (sAt_lt r0 r1 ts (j + 1))
  · intro i j hij hj; rw [v1s_getD _ _ _ ts n j hj, v1s_getD _ _ _ ts n i (by omega)]; exact v1_apart r0 r1 _ ts hts i j hij (by omega)
set_option maxRecDepth 100000 in
set_option maxHeartbeats 4000000 in
theorem uuidApart_walk (a0 : Int) (a1 : Option Addr) (x1 : List Int) (c1 : Nat) (a2 : Option Addr) (x2 : List UInt8) (c2 : Nat) (a3 : Option Addr) (x3 : List UInt8) (c3 : Nat) (a4 : Option Addr) (x4 : List UInt8) (c4 : Nat) (w : World)
    (w0 : (Lit.int .i64 a0).wf = true) (h1 : RdI .i64 w a1 x1) (_ : x1.length ≤ c1) (_ : c1 ≤ 9223372036854775807) (h2 : Rd w a2 x2) (hc2 : x2.length ≤ c2) (_ : c2 ≤ 9223372036854775807) (h3 : Rd w a3 x3) (hc3 : x3.length ≤ c3) (_ : c3 ≤ 9223372036854775807) (h4 : Rd w a4 x4) (hc4 : x4.length ≤ c4) (hd4 : c4 ≤ 9223372036854775807) :
    Calls Try.prog 7 #[.int .i64 a0, .slice a1 x1.length c1, .slice a2 x2.length c2, .slice a3 x3.length c3, .slice a4 x4.length c4] w fun e w' => e = .returned (.bool true) ∧ Below w.heap.size w w' := by
  have hb := Below.refl w.heap.size w
  have l1 := h1.1
  have l2 := h2.1
  have l3 := h3.1
  have l4 := h4.1
  have htm := timely_ok a1 x1 c1 w h1
  by_cases hbig : 2147483647 < x1.length ∨ 2147483647 < x2.length ∨ 2147483647 < x3.length ∨ 2147483647 < x4.length
  · clear h1 h2 h3 h4 htm w0
    generalize x1.length = m1 at *
    generalize x2.length = m2 at *
    generalize x3.length = m3 at *
    generalize x4.length = m4 at *
    by_cases b1 : 2147483647 < m1
    · go_enter Try.func7, Try.ntmps7
      go_wp2
      go_ret
      exact ⟨rfl, hb⟩
    · by_cases b2 : 2147483647 < m2
      · go_enter Try.func7, Try.ntmps7
        go_wp2
        go_ret
        exact ⟨rfl, hb⟩
      · by_cases b3 : 2147483647 < m3
        · go_enter Try.func7, Try.ntmps7
          go_wp2
          go_ret
          exact ⟨rfl, hb⟩
        · have b4 : 2147483647 < m4 := by omega
          clear hbig
          go_enter Try.func7, Try.ntmps7
          go_wp2
          go_ret
          exact ⟨rfl, hb⟩
  · by_cases hgood : (a0 = 1 ∨ a0 = 7) ∧ (x1.all timeOk && decide (x1.length ≤ 12)) = true ∧ x2.length = 2 ∧ x3.length = 6 ∧ x4.length = 16
    · obtain ⟨hv, htim, e2, e3, e4⟩ := hgood
      rw [e2, e3, e4]
      rcases hv with rfl | rfl
      · exact apart1_ok a1 a2 a3 a4 x1 x2 x3 _ c1 c2 c3 c4 w h1 rfl htim h2 e2 h3 e3 (by omega) (by omega)
      · exact apart7_ok a1 a2 a3 a4 x1 x2 x3 x4 _ c1 c2 c3 c4 w h1 rfl htim h2 e2 h3 e3 h4 e4 (by omega) hd4 (by omega) (by omega)
    · clear h1 h2 h3 h4
      generalize hT : (x1.all timeOk && decide (x1.length ≤ 12)) = T at *
      generalize x1.length = m1 at *
      generalize x2.length = m2 at *
      generalize x3.length = m3 at *
      generalize x4.length = m4 at *
      have HT := Lib.hid htm
      have HG := Lib.hid hgood
      clear htm hgood hT w0
      by_cases v1 : a0 = 1 ∨ a0 = 7
      · by_cases vt : T = true
        · subst vt
          by_cases v2 : m2 = 2
          · by_cases v3 : m3 = 6
            · have v4 : ((m4 : Int) != 16) = true := by
                rw [bne_iff_ne]
                intro e
                exact HG.out ⟨v1, rfl, v2, v3, by omega⟩
              subst v2 v3
              rcases v1 with rfl | rfl
              all_goals
                go_enter Try.func7, Try.ntmps7
                go_wp2_with (go_at_call 19; refine HT.out.mono ?_; rintro e w1 ⟨rfl, rfl⟩)
                go_ret
                exact ⟨rfl, hb⟩
            · have v3' : ((m3 : Int) != 6) = true := by rw [bne_iff_ne]; omega
              clear v3
              subst v2
              rcases v1 with rfl | rfl
              all_goals
                go_enter Try.func7, Try.ntmps7
                go_wp2_with (go_at_call 19; refine HT.out.mono ?_; rintro e w1 ⟨rfl, rfl⟩)
                go_ret
                exact ⟨rfl, hb⟩
          · have v2' : ((m2 : Int) != 2) = true := by rw [bne_iff_ne]; omega
            clear v2
            rcases v1 with rfl | rfl
            all_goals
              go_enter Try.func7, Try.ntmps7
              go_wp2_with (go_at_call 19; refine HT.out.mono ?_; rintro e w1 ⟨rfl, rfl⟩)
              go_ret
              exact ⟨rfl, hb⟩
        · obtain rfl : T = false := by simpa using vt
          clear vt
          rcases v1 with rfl | rfl
          all_goals
            go_enter Try.func7, Try.ntmps7
            go_wp2_with (go_at_call 19; refine HT.out.mono ?_; rintro e w1 ⟨rfl, rfl⟩)
            go_ret
            exact ⟨rfl, hb⟩
      · have u1 : (a0 != 1) = true := by rw [bne_iff_ne]; exact fun e => v1 (.inl e)
        have u7 : (a0 != 7) = true := by rw [bne_iff_ne]; exact fun e => v1 (.inr e)
        clear v1
        go_enter Try.func7, Try.ntmps7
        go_wp2
        go_ret
        exact ⟨rfl, hb⟩
end Go.Proofs.Ytbnkbgbgdolihaa
