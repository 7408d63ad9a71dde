/- What the law FnKsuidSet computes: true. -/
import Derived.Test.YtbacbgicfomkbaaKSetFn
import Derived.Test.YtbacbgicfomkbaaSortedFn
import Derived.Test.YtbacbgicfomkbaaArgs
namespace Go.Proofs.Ytbacbgicfomkbaa
open Go.RowKit
set_option linter.unusedVariables false
theorem cmpL_num (x y : List UInt8) (h : x.length = y.length) : cmpL x y = signI ((num x : Int) - (num y : Int)) := by
  have h1 := cmp_writ dall (by rw [dall_length]; decide) dall_mono x.length (num x) (num y)
  have e1 := writ_dall x
  have e2 := writ_dall y
  rw [← h] at e2
  rw [e1, e2, dall_length, Nat.mod_eq_of_lt (num_lt x), Nat.mod_eq_of_lt (by have := num_lt y; rwa [← h] at this)] at h1
  exact h1
/-- Sorted, of one length, and no two neighbours the same: by numbers, in order. -/
theorem asc_of {ss : List (List UInt8)} (hs : ss.Pairwise leL) (h20 : All20 ss) (hd : ∀ j, j + 1 < ss.length → ss.getD j [] ≠ ss.getD (j + 1) []) : Asc ss := by
  intro i hi
  have h1 := h20.at (show i < ss.length by omega)
  have h2 := h20.at hi
  have hne := hd i hi
  have hle : leL (ss.getD i []) (ss.getD (i + 1) []) := by
    have := List.pairwise_iff_getElem.1 hs i (i + 1) (by omega) hi (by omega)
    have e1 : ss.getD i [] = ss[i]'(by omega) := by simp [List.getD_eq_getElem?_getD, show i < ss.length by omega]
    have e2 : ss.getD (i + 1) [] = ss[i + 1]'hi := by simp [List.getD_eq_getElem?_getD, hi]
    rw [e1, e2]
    exact this
  have hz : cmpL (ss.getD i []) (ss.getD (i + 1) []) ≠ 0 := fun e => hne ((cmpL_zero _ _).1 e)
  unfold leL at hle
  rw [cmpL_num _ _ (by rw [h1, h2])] at hle hz
  generalize num (ss.getD i []) = a at *
  generalize num (ss.getD (i + 1) []) = b at *
  unfold signI at hle hz
  split at hle <;> split at hz <;> first | omega | (split at hle <;> split at hz <;> omega)
theorem sameLists_at {a b : Option Addr} {n m ca cb : Nat} {ls ms : List (List UInt8)} {w : World} {r : Bool} (h1 : RdL w a ls) (h2 : RdL w b ms) (e1 : ls.length = n) (e2 : ms.length = m) (hr : decide (ls = ms) = r) :
    Calls Try.prog 21 #[.slice a n ca, .slice b m cb] w fun e w' => e = .returned (.bool r) ∧ Below w.heap.size w w' := by
  subst e1 e2 hr; exact sameLists_ok a b ls ms ca cb w h1 h2
set_option maxRecDepth 100000 in
set_option maxHeartbeats 4000000 in
theorem ksuidSet_walk (a0 : Option Addr) (x0 : List (List UInt8)) (c0 : Nat) (w : World) (h0 : RdL w a0 x0) (hc : x0.length ≤ c0) (hc' : c0 ≤ 9223372036854775807) :
    Calls Try.prog 9 #[.slice a0 x0.length c0] w fun e w' => e = .returned (.bool true) ∧ Below w.heap.size w w' := by
  have hb := Below.refl w.heap.size w
  have H0 := Lib.hid h0
  clear h0
  go_enter Try.func9, Try.ntmps9
  go_wp2_with (go_at_call 17; refine (zzFits_ok a0 x0 c0 w H0.out).mono ?_)
  intro e w1
  try simp only [and_imp, forall_exists_index]
  intro b1 he hw
  subst he
  subst hw
  cases b1
  · go_wp2
    go_ret
    exact ⟨rfl, hb⟩
  · go_wp2_with (go_at_call 18; refine (sized_ok a0 x0 c0 _ H0.out).mono ?_)
    intro e w2
    try simp only [and_imp, forall_exists_index]
    intro b2 he hb2 hw
    subst he
    subst hw
    cases b2
    · clear hb2
      go_wp2
      go_ret
      exact ⟨rfl, hb⟩
    · obtain ⟨h12, h20⟩ := hb2 rfl
      have H20 := Lib.hid h20
      clear hb2 h20
      go_wp2_with (go_at_call 20; refine (sorted_ok a0 x0 c0 x0.length _ H0.out H20.out rfl h12).mono ?_)
      intro e w4
      try simp only [and_imp, forall_exists_index]
      intro a4 c4 ss he q1 q2 hr4 hb4
      subst he
      obtain ⟨n, hn⟩ : ∃ n, n = x0.length := ⟨_, rfl⟩
      have HSN : Hid (ss.length = n) := Lib.hid (by rw [hn]; exact q1.length_eq)
      have HXN : Hid (x0.length = n) := Lib.hid hn.symm
      rw [← hn] at h12 hc
      rw [← hn]
      have HQ := Lib.hid (And.intro q1 q2)
      have HS20 : Hid (All20 ss) := H20.out.perm q1
      have R0 := Lib.hid (H0.out.kept hb4)
      have R4 := Lib.hid hr4
      clear hn q1 q2 hr4
      go_wp2_with fail
      clear hb H0
      go_loopw [4] (fun v wr => ∃ k i : Nat, Hid (i = k + 1) ∧ k ≤ n ∧ v = .int .i64 (i : Int) ∧ Hid (∀ j, j < k → j + 1 < n → ss.getD j [] ≠ ss.getD (j + 1) []) ∧ Below w4.heap.size w4 wr) (fun v _ => n + 1 - (intOf v).toNat)
      case atStart => exact ⟨0, 1, rfl, Nat.zero_le _, rfl, fun j hj => absurd hj (Nat.not_lt_zero j), Below.refl _ _⟩
      case round =>
        obtain ⟨k, i, HIK, hkn, rfl, hall, hbr⟩ := hrel
        by_cases hlt : i < n
        · have hkl : k < n := by have := HIK.out; omega
          obtain ⟨b1, off1, hab, ai, ci, hc, hr⟩ := (R4.out.kept hbr).at (i := k) (by rw [HSN.out]; exact hkl)
          obtain ⟨b2, off2, hab2, ai2, ci2, hc2, hr2⟩ := (R4.out.kept hbr).at (i := i) (by rw [HSN.out]; exact hlt)
          subst hab
          injection hab2 with hab2
          injection hab2 with e1 e2 _
          subst e1 e2
          have hLX : (ss.getD k []).length = 20 := HS20.out.at (by rw [HSN.out]; exact hkl)
          have hLY : (ss.getD i []).length = 20 := HS20.out.at (by rw [HSN.out]; exact hlt)
          obtain ⟨X, hX⟩ : ∃ X, X = ss.getD k [] := ⟨_, rfl⟩
          obtain ⟨Y, hY⟩ : ∃ Y, Y = ss.getD i [] := ⟨_, rfl⟩
          rw [← hX] at hc hr hLX
          rw [← hY] at hc2 hr2 hLY
          rw [hLX] at hc
          rw [hLY] at hc2
          have HXY := Lib.hid (And.intro hX hY)
          have HL := Lib.hid (And.intro hLX hLY)
          have hsub : IntKind.i64.wrap ((i : Int) - 1) = (k : Int) := by have := HIK.out; rw [IntKind.wrap_i64]; omega
          have HSB := Lib.hid hsub
          clear hX hY hLX hLY hsub
          go_wp2_with fail
          refine region_plan (fun w' => Below wr.heap.size wr w') [(0, 0), (1, 0), (2, 0), (3, 0), (4, 0), (5, 0), (6, 0), (7, 0), (8, 0), (9, 1)] rfl (by kernel_rfl) (by kernel_rfl) rfl (by intro c a d v w h; cases d <;> exact h) (fun _ _ h => h) ?_
          intro w3 hpW hb3
          clear hpW
          simp only [planOps, List.filterMap_cons, List.filterMap_nil, List.getElem?_cons_succ, List.getElem?_cons_zero, Option.map_some]
          refine plan_still (v := .slice (some ⟨b1, off1, none⟩) n c4) rfl (fun w' hS => by first | rfl | go_simp) ?_
          simp only [Act.put, List.setIfInBounds_toArray, List.set_cons_zero, List.set_cons_succ]
          refine plan_still (v := .int .i64 (i : Int)) rfl (fun w' hS => by first | rfl | go_simp) ?_
          simp only [Act.put, List.setIfInBounds_toArray, List.set_cons_zero, List.set_cons_succ]
          refine plan_still (v := .int .i64 (k : Int)) rfl (fun w' hS => do_subM (m := i) (n := 1) (r := k) rfl Try.underlying3 rfl rfl HSB.out) ?_
          simp only [Act.put, List.setIfInBounds_toArray, List.set_cons_zero, List.set_cons_succ]
          refine plan_still rfl (still_index rfl Try.underlying23 (by kernel_rfl) rfl k rfl (by omega)) ?_
          simp only [Act.put, List.setIfInBounds_toArray, List.set_cons_zero, List.set_cons_succ]
          refine plan_still rfl (still_loadS rfl rfl (fun w' hS => below_cell hc hS)) ?_
          simp only [Act.put, List.setIfInBounds_toArray, List.set_cons_zero, List.set_cons_succ]
          refine plan_still (v := .slice (some ⟨b1, off1, none⟩) n c4) rfl (fun w' hS => by first | rfl | go_simp) ?_
          simp only [Act.put, List.setIfInBounds_toArray, List.set_cons_zero, List.set_cons_succ]
          refine plan_still (v := .int .i64 (i : Int)) rfl (fun w' hS => by first | rfl | go_simp) ?_
          simp only [Act.put, List.setIfInBounds_toArray, List.set_cons_zero, List.set_cons_succ]
          refine plan_still rfl (still_index rfl Try.underlying23 (by kernel_rfl) rfl i rfl (by omega)) ?_
          simp only [Act.put, List.setIfInBounds_toArray, List.set_cons_zero, List.set_cons_succ]
          refine plan_still rfl (still_loadS rfl rfl (fun w' hS => below_cell hc2 hS)) ?_
          simp only [Act.put, List.setIfInBounds_toArray, List.set_cons_zero, List.set_cons_succ]
          refine plan_do ?_
          go_wp2_with (go_at_call 15; refine (same_at X Y (hr.kept hb3) (hr2.kept hb3) HL.out.1 HL.out.2).mono ?_)
          rintro e w5 ⟨rfl, n4, rfl⟩
          have hb5 := hb3.trans (⟨rfl, rfl, rfl, Nat.le_refl _, fun _ _ => rfl⟩ : Below wr.heap.size w3 (w3.drewN n4))
          clear hb3
          generalize w3.drewN n4 = w5 at *
          by_cases hxy : X = Y
          · have hd : decide (X = Y) = true := by simp [hxy]
            rw [hd]
            go_wp2
            refine ⟨hb5, ?_⟩
            refine plan_nil ?_
            have hb6 := hb4.trans ((hbr.trans (hb5.mono hbr.size)).mono hb4.size)
            go_wp2
            go_ret
            exact ⟨rfl, hb6⟩
          · have hd : decide (X = Y) = false := by simp [hxy]
            rw [hd]
            go_wp2
            refine ⟨hb5, ?_⟩
            refine plan_nil ?_
            have hb6 := hbr.trans (hb5.mono hbr.size)
            go_wp2
            go_roundw
            case rel => exact ⟨i, i + 1, rfl, by omega, by go_num, fun j hj hjn => by
              have hik := HIK.out
              by_cases hjk : j < k
              · exact hall.out j hjk hjn
              · obtain rfl : j = k := by omega
                rw [← hik, ← HXY.out.1, ← HXY.out.2]
                exact hxy, hb6⟩
            case measure => simp [intOf]; omega
        · have hasc : Asc ss := asc_of HQ.out.2 HS20.out (fun j hj => hall.out j (by have := HIK.out; have := HSN.out; omega) (by have := HSN.out; omega))
          have HA := Lib.hid hasc
          have R0' := Lib.hid (R0.out.kept hbr)
          have R4' := Lib.hid (R4.out.kept hbr)
          have hbw := hb4.trans (hbr.mono hb4.size)
          clear hasc hall
          go_wp2_with (go_at_call 30; refine (ksuidSet_fn a0 x0 ss c0 n _ R0'.out H20.out HXN.out h12 HQ.out.1 HQ.out.2 HA.out).mono ?_)
          intro e w5
          try simp only [and_imp, forall_exists_index]
          intro a5 c5 he hr5 hb5
          subst he
          have R45 := Lib.hid (R4'.out.kept hb5)
          have R5 := Lib.hid hr5
          have HB5 := Lib.hid (hbw.trans (hb5.mono hbw.size))
          clear hr5 hb5 hbw hbr
          go_wp2_with (go_at_call 21; refine (sameLists_at R5.out R45.out HSN.out HSN.out (decide_eq_true (rfl : ss = ss))).mono ?_)
          rintro e w6 ⟨rfl, hb6⟩
          have HB6 := Lib.hid (HB5.out.trans (hb6.mono HB5.out.size))
          clear hb6
          go_wp2
          go_ret
          exact ⟨rfl, HB6.out⟩
end Go.Proofs.Ytbacbgicfomkbaa
