/- The law FnUlidMake returns true, and turns nothing that was there. -/
import Derived.Test.YtpnpgckpjlbmdaaUlidMakeFn
namespace Go.Proofs.Ytpnpgckpjlbmdaa
open Go.RowKit
set_option linter.unusedVariables false
set_option maxRecDepth 100000 in
set_option maxHeartbeats 1600000 in
theorem ulidMake_main (n : Nat) (a0 : Option Addr) (x : List UInt8) (c : Nat) (w : World) (h0 : Rd w a0 x) (hn : n < 281474976710656) (hm : 10 ≤ x.length) (hlc : x.length ≤ c) (hc : c ≤ 9223372036854775807) (hbig : x.length ≤ 2147483647) :
    Calls Try.prog 7 #[.int .u64 n, .slice a0 x.length c] w fun e w' => e = .returned (.bool true) ∧ Below w.heap.size w w' := by
  have L16 := Lib.hid (show (be 6 n ++ x.take 10).length = 16 by rw [List.length_append, be_length, List.length_take]; omega)
  have L10 := Lib.hid (show (x.take 10).length = 10 by rw [List.length_take]; omega)
  have HT : Hid (num ((be 6 n ++ x.take 10).take 6) = n) := Lib.hid (by rw [List.take_left' (be_length 6 n), num_be6, Nat.mod_eq_of_lt]; exact hn)
  have HD : Hid ((be 6 n ++ x.take 10).drop 6 = x.take 10) := Lib.hid (List.drop_left' (be_length 6 n))
  have HN := Lib.hid (show n < 18446744073709551616 by omega)
  obtain ⟨b0, o0, rfl, -⟩ := h0.2.resolve_left (by intro h; simp [h] at hm)
  have r0 : Rd w (some ⟨b0, o0, none⟩) (x.take 10) := h0.take 10
  generalize hl : x.length = len at *
  have HL := Lib.hid hl
  have HS := Lib.hid hn
  have hge2 := Lib.hid (show ¬ (281474976710656 : Int) ≤ (n : Int) by omega)
  have hlt : decide ((len : Int) < 10) = false := decide_eq_false (by omega)
  have HM := Lib.hid hm
  clear hl hn hm
  go_enter Try.func7, Try.ntmps7
  go_wp2_with (first | (go_at_call 20; refine (ulidMake_ok n _ x len c _ HS.out h0 HL.out HM.out hlc hc).mono ?_; rintro e w2 ⟨g, rfl, b2, hb2⟩; have hge := decide_eq_false hge2.out; have r2 := b2.rd (by rw [L16.out]; decide)) | (go_at_call 21; refine (ulidParts_ok _ _ 16 _ r2 L16.out).mono ?_; rintro e w3 ⟨g3, rfl, b3, hb3⟩; rw [HT.out]; rw [HD.out] at b3))
  have hb23 := hb2.trans (hb3.mono hb2.size)
  have r3 := b3.rd (by rw [L10.out]; decide)
  have hm := HM.out
  refine region_plan (fun w' => Below w3.heap.size w3 w') [(0, 0), (1, 0), (2, 0), (3, 0), (4, 0), (5, 0), (6, 0), (8, 0), (9, 0), (7, 1), (10, 1), (11, 1), (12, 0), (13, 0), (14, 0), (15, 0), (16, 0), (17, 0), (18, 0), (19, 0), (20, 0), (21, 0), (22, 1), (23, 0), (24, 0)] rfl (by kernel_rfl) (by kernel_rfl) rfl (by intro c a d v w h; cases d <;> exact h) (fun _ _ h => h) ?_
  intro w4 hpW hb4
  clear hpW
  simp only [planOps, List.filterMap_cons, List.filterMap_nil, List.getElem?_cons_succ, List.getElem?_cons_zero, Option.map_some]
  repeat (first | (refine plan_still rfl (still_slice_to (k := 10) rfl Try.underlying22 (by kernel_rfl) rfl rfl (by omega) (by omega)) ?_) | (refine plan_skip rfl ?_) | (refine plan_still (v := ?_) rfl (fun w' hS => ?_) ?_; rotate_left; (focus (go_simp; first | done | with_reducible rfl))); simp only [Act.put, List.setIfInBounds_toArray, List.set_cons_zero, List.set_cons_succ])
  refine plan_do ?_
  go_wp2_with (go_at_call 15; refine (specBytes_ok n 6 _ (by decide) HN.out).mono ?_; rintro e w5 ⟨rfl, b5, hb5⟩)
  have hb45 := hb4.trans (hb5.mono hb4.size)
  have rb := b5.rd (by rw [be_length]; decide)
  refine ⟨hb45, plan_do ?_⟩
  have hb25 := hb23.trans (hb45.mono hb23.size)
  go_wp2_with (go_at_call 14; refine (join_at (n2 := 10) _ _ rb (r0.kept hb25) (be_length 6 n) L10.out (by decide)).mono ?_; rintro e w6 ⟨ja, jc, rfl, rj, -, hb6⟩)
  have hb46 := hb45.trans (hb6.mono hb45.size)
  refine ⟨hb46, plan_do ?_⟩
  go_wp2_with (go_at_call 13; refine (same_eq ((r2.kept hb3).kept hb46) rj L16.out L16.out).mono ?_; rintro e w7 ⟨rfl, n7, rfl⟩)
  have hb47 := below_drewN' hb46 n7
  refine ⟨hb47, ?_⟩
  repeat (first | (refine plan_still rfl (still_slice_to (k := 10) rfl Try.underlying22 (by kernel_rfl) rfl rfl (by omega) (by omega)) ?_) | (refine plan_skip rfl ?_) | (refine plan_still (v := ?_) rfl (fun w' hS => ?_) ?_; rotate_left; (focus (go_simp; first | done | with_reducible rfl))); simp only [Act.put, List.setIfInBounds_toArray, List.set_cons_zero, List.set_cons_succ])
  refine plan_do ?_
  have hb27 := hb23.trans (hb47.mono hb23.size)
  go_wp2_with (go_at_call 13; refine (same_eq (r3.kept hb47) (r0.kept hb27) L10.out L10.out).mono ?_; rintro e w8 ⟨rfl, n8, rfl⟩)
  have hb48 := below_drewN' hb46 (n7 + n8)
  refine ⟨hb48, ?_⟩
  repeat (first | (refine plan_skip rfl ?_) | (refine plan_still (v := ?_) rfl (fun w' hS => ?_) ?_; rotate_left; (focus (go_simp; first | done | with_reducible rfl))); simp only [Act.put, List.setIfInBounds_toArray, List.set_cons_zero, List.set_cons_succ])
  refine plan_nil ?_
  go_wp2
  go_ret
  exact ⟨rfl, hb23.trans (hb48.mono hb23.size)⟩
set_option maxRecDepth 100000 in
set_option maxHeartbeats 1600000 in
theorem ulidMake_walk (a0 : Int) (a1 : Option Addr) (x1 : List UInt8) (c1 : Nat) (w : World) (w0 : (Lit.int .u64 a0).wf = true) (h1 : Rd w a1 x1) (hc : x1.length ≤ c1) (hc2 : c1 ≤ 9223372036854775807) :
    Calls Try.prog 7 #[.int .u64 a0, .slice a1 x1.length c1] w fun e w' => e = .returned (.bool true) ∧ Below w.heap.size w w' := by
  have hb := Below.refl w.heap.size w
  have hl := h1.1
  obtain ⟨n, rfl, hn⟩ : ∃ n : Nat, a0 = n ∧ n < 18446744073709551616 := ⟨a0.toNat, by simp [Lit.wf, IntKind.min, IntKind.max, IntKind.signed, IntKind.bits] at w0; omega, by simp [Lit.wf, IntKind.min, IntKind.max, IntKind.signed, IntKind.bits] at w0; omega⟩
  clear w0
  by_cases hbig : 2147483647 < x1.length
  · clear h1
    generalize x1.length = len at *
    go_enter Try.func7, Try.ntmps7
    go_wp2
    go_ret
    exact ⟨rfl, hb⟩
  · by_cases hms : n < 281474976710656
    · by_cases hlen : 10 ≤ x1.length
      · exact ulidMake_main n a1 x1 c1 w h1 hms hlen hc hc2 (by omega)
      · have hge := Lib.hid (show ¬ (281474976710656 : Int) ≤ (n : Int) by omega)
        have hlt : decide ((x1.length : Int) < 10) = true := decide_eq_true (by omega)
        have HS := Lib.hid hms
        clear hms hn
        by_cases h0 : x1 = []
        · subst h0
          go_enter Try.func7, Try.ntmps7
          go_wp2_with (first | (go_at_call 20; refine (ulidMake_empty n a1 0 c1 _ HS.out h1 rfl).mono ?_; rintro e w2 ⟨rfl, hb2⟩; have hge2 := decide_eq_false hge.out) | (go_at_call 12; refine (known_ok _).mono ?_; rintro e w3 ⟨rfl, hb3⟩))
          go_ret
          exact ⟨rfl, hb2.trans (hb3.mono hb2.size)⟩
        · have hp : 0 < x1.length := List.length_pos_iff.2 h0
          clear h0
          generalize hle : x1.length = len at *
          have HL := Lib.hid hle
          clear hle
          go_enter Try.func7, Try.ntmps7
          go_wp2_with (first | (go_at_call 20; refine (ulidMake_short n a1 x1 len c1 _ HS.out h1 HL.out hp (by omega) hc hc2).mono ?_; rintro e w2 ⟨rfl, hb2⟩; have hge2 := decide_eq_false hge.out) | (go_at_call 12; refine (known_ok _).mono ?_; rintro e w3 ⟨rfl, hb3⟩))
          go_ret
          exact ⟨rfl, hb2.trans (hb3.mono hb2.size)⟩
    · have hge := Lib.hid (show (281474976710656 : Int) ≤ (n : Int) by omega)
      have hgt := Lib.hid (show 281474976710655 < n by omega)
      clear hms hn
      generalize hle : x1.length = len at *
      clear hle
      go_enter Try.func7, Try.ntmps7
      go_wp2_with (first | (go_at_call 20; refine (ulidMake_big n a1 x1 len c1 _ hgt.out h1).mono ?_; rintro e w2 ⟨rfl, hb2⟩; have hge2 := decide_eq_true hge.out) | (go_at_call 12; refine (known_ok _).mono ?_; rintro e w3 ⟨rfl, hb3⟩))
      go_ret
      exact ⟨rfl, hb2.trans (hb3.mono hb2.size)⟩
end Go.Proofs.Ytpnpgckpjlbmdaa
