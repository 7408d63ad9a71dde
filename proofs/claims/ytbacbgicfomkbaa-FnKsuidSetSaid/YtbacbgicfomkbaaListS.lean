/- Contracts of the reference's and the law's functions over slices of byte slices. -/
import Derived.Test.YtbacbgicfomkbaaKList
import Derived.Test.YtbacbgicfomkbaaSpec
import Derived.Test.YtbacbgicfomkbaaMore
namespace Go.Proofs.Ytbacbgicfomkbaa
open Go.RowKit
set_option linter.unusedVariables false
set_option linter.unusedSimpArgs false

theorem RdL.at {w : World} {a : Option Addr} {ls : List (List UInt8)} (h : RdL w a ls) {i : Nat} (hi : i < ls.length) : ∃ b off, a = some ⟨b, off, none⟩ ∧ ∃ ai ci, w.cell? ⟨b, off + i, none⟩ = some (.slice ai (ls.getD i []).length ci) ∧ Rd w ai (ls.getD i []) := by
  rcases h.2 with rfl | ⟨b, off, rfl, hc⟩
  · simp at hi
  · exact ⟨b, off, rfl, hc i hi⟩

set_option maxRecDepth 100000 in
theorem zzFits_ok (a : Option Addr) (ls : List (List UInt8)) (c : Nat) (w : World) (h : RdL w a ls) :
    Calls Try.prog 17 #[.slice a ls.length c] w fun e w' => ∃ b, e = .returned (.bool b) ∧ w' = w := by
  have H := Lib.hid h
  have hl := h.1
  clear h
  obtain ⟨n, hn⟩ : ∃ n, n = ls.length := ⟨_, rfl⟩
  rw [← hn] at hl
  rw [← hn]
  have HN := Lib.hid hn
  clear hn
  by_cases hbig : 2147483647 < n
  · go_enter Try.func17, Try.ntmps17
    go_wp2
    go_ret
    exact ⟨_, rfl, rfl⟩
  go_enter Try.func17, Try.ntmps17
  go_wp2
  go_loopw [10] (fun i wr => ∃ k : Nat, k ≤ n ∧ i = .int .i64 k ∧ wr = w) (fun i _ => n - (intOf i).toNat)
  case atStart => exact ⟨0, Nat.zero_le _, rfl, rfl⟩
  case round =>
    obtain ⟨k, hk, rfl, rfl⟩ := hrel
    by_cases hlt : k < n
    · obtain ⟨b, off, rfl, ai, ci, hc, hr⟩ := H.out.at (i := k) (by rw [← HN.out]; exact hlt)
      have hm := hr.1
      generalize (ls.getD k []).length = m at *
      clear hr
      by_cases hb2 : 2147483647 < m
      · go_wp2
        go_ret
        exact ⟨_, rfl, rfl⟩
      · go_wp2
        go_roundw
        case rel => exact ⟨k + 1, by omega, by go_num, by first | trivial | rfl⟩
        case measure => simp [intOf]; omega
    · obtain rfl : k = n := by omega
      go_wp2
      go_ret
      exact ⟨_, rfl, rfl⟩

set_option maxRecDepth 100000 in
theorem sized_ok (a : Option Addr) (ls : List (List UInt8)) (c : Nat) (w : World) (h : RdL w a ls) :
    Calls Try.prog 18 #[.slice a ls.length c, .int .i64 20] w fun e w' => ∃ b, e = .returned (.bool b) ∧ (b = true → ls.length ≤ 12 ∧ All20 ls) ∧ w' = w := by
  have H := Lib.hid h
  have hl := h.1
  clear h
  obtain ⟨n, hn⟩ : ∃ n, n = ls.length := ⟨_, rfl⟩
  rw [← hn] at hl
  rw [← hn]
  have HN := Lib.hid hn
  clear hn
  go_enter Try.func18, Try.ntmps18
  go_wp2
  go_loopw [9] (fun i wr => ∃ k : Nat, k ≤ n ∧ i = .int .i64 k ∧ Hid (∀ j, j < k → (ls.getD j []).length = 20) ∧ wr = w) (fun i _ => n - (intOf i).toNat)
  case atStart => exact ⟨0, Nat.zero_le _, rfl, fun j hj => absurd hj (Nat.not_lt_zero j), rfl⟩
  case round =>
    obtain ⟨k, hk, rfl, hall, rfl⟩ := hrel
    by_cases hlt : k < n
    · obtain ⟨b, off, rfl, ai, ci, hc, hr⟩ := H.out.at (i := k) (by rw [← HN.out]; exact hlt)
      have hm := hr.1
      generalize hM : (ls.getD k []).length = m at *
      have HM := Lib.hid hM
      clear hr hM
      by_cases hb2 : m = 20
      · subst hb2
        go_wp2
        go_roundw
        case rel => exact ⟨k + 1, by omega, by go_num, fun j hj => by
          by_cases hjk : j < k
          · exact hall.out j hjk
          · obtain rfl : j = k := by omega
            exact HM.out, by first | trivial | rfl⟩
        case measure => simp [intOf]; omega
      · have hne : ((m : Int) != 20) = true := by rw [bne_iff_ne]; omega
        go_wp2
        go_ret
        exact ⟨false, rfl, fun h => (by cases h), rfl⟩
    · have hkn : n = k := by omega
      subst hkn
      go_wp2
      go_ret
      refine ⟨decide (n ≤ 12), by congr 2; simp; omega, fun h => ⟨of_decide_eq_true h, fun x hx => ?_⟩, rfl⟩
      obtain ⟨i, hi, rfl⟩ := List.getElem_of_mem hx
      have := hall.out i (by rw [HN.out]; exact hi)
      simpa [hi] using this

theorem still_loadS {S : World → Prop} {o : Oper} {a : Act} {x : Operand} (ho : o.op = .load 22 x) {ad : Addr} (hx : a.eval x = .pointer (some ad)) {p : Option Addr} {n c : Nat} (hc : ∀ w', S w' → w'.cell? ad = some (.slice p n c)) :
    ∀ w', S w' → (execOp a.eval o).run Try.prog w' = .ok (.value (.slice p n c)) w' := by
  intro w' hS
  have h := hc w' hS
  unfold execOp
  simp only [ho, hx]
  go_simp
theorem below_cell {w w' : World} {ad : Addr} {v : Value} (h : w.cell? ad = some v) (hb : Below w.heap.size w w') : w'.cell? ad = some v := by
  rw [hb.cell (World.block_lt_of_cell? w _ h)]; exact h
theorem getD_ext {ls ms : List (List UInt8)} (hl : ls.length = ms.length) (h : ∀ j, j < ls.length → ls.getD j [] = ms.getD j []) : ls = ms := by
  apply List.ext_getElem hl
  intro i h1 h2
  have := h i h1
  simpa [h1, h2] using this

set_option maxRecDepth 100000 in
set_option maxHeartbeats 1000000 in
theorem sameLists_ok (a b : Option Addr) (ls ms : List (List UInt8)) (ca cb : Nat) (w : World) (h1 : RdL w a ls) (h2 : RdL w b ms) :
    Calls Try.prog 21 #[.slice a ls.length ca, .slice b ms.length cb] w fun e w' => e = .returned (.bool (decide (ls = ms))) ∧ Below w.heap.size w w' := by
  have H1 := Lib.hid h1
  have H2 := Lib.hid h2
  have hl1 := h1.1
  have hl2 := h2.1
  have hb0 := Below.refl w.heap.size w
  clear h1 h2
  obtain ⟨n, hn⟩ : ∃ n, n = ls.length := ⟨_, rfl⟩
  obtain ⟨m, hm⟩ : ∃ m, m = ms.length := ⟨_, rfl⟩
  rw [← hn] at hl1 ⊢
  rw [← hm] at hl2 ⊢
  by_cases hne : n = m
  case neg =>
    have hd : decide (ls = ms) = false := by simp; intro e; subst e; omega
    rw [hd]
    have hnb : ((n : Int) != (m : Int)) = true := neb_ne hne
    clear hn hm hd
    go_enter Try.func21, Try.ntmps21
    go_wp2
    go_ret
    exact ⟨rfl, hb0⟩
  subst hne
  have HN : Hid (n = ls.length ∧ n = ms.length) := ⟨hn, hm⟩
  clear hn hm hl2
  go_enter Try.func21, Try.ntmps21
  go_wp2
  go_loopw [13] (fun i wr => ∃ k : Nat, k ≤ n ∧ i = .int .i64 k ∧ Hid (∀ j, j < k → ls.getD j [] = ms.getD j []) ∧ Below w.heap.size w wr) (fun i _ => n - (intOf i).toNat)
  case atStart => exact ⟨0, Nat.zero_le _, rfl, fun j hj => absurd hj (Nat.not_lt_zero j), hb0⟩
  case round =>
    obtain ⟨k, hk, rfl, hall, hbr⟩ := hrel
    by_cases hlt : k < n
    · obtain ⟨b1, off1, rfl, ai, ci, hc, hr⟩ := (H1.out.kept hbr).at (i := k) (by rw [← HN.out.1]; exact hlt)
      obtain ⟨b2, off2, rfl, ai2, ci2, hc2, hr2⟩ := (H2.out.kept hbr).at (i := k) (by rw [← HN.out.2]; exact hlt)
      generalize hX : ls.getD k [] = X at *
      generalize hY : ms.getD k [] = Y at *
      have HXY := Lib.hid (And.intro hX hY)
      have hlx := hr.1
      have hly := hr2.1
      generalize hLX : X.length = lx at *
      generalize hLY : Y.length = ly at *
      have HL := Lib.hid (And.intro hLX hLY)
      clear hX hY hLX hLY
      go_wp2_with fail
      refine region_plan (fun w' => Below wr.heap.size wr w') [(0, 0), (1, 0), (2, 0), (3, 0), (4, 0), (5, 0), (6, 0), (7, 0), (8, 1), (9, 0)] rfl (by kernel_rfl) (by kernel_rfl) rfl (by intro c a d v w h; cases d <;> exact h) (fun _ _ h => h) ?_
      intro w3 hpW hb3
      clear hpW
      simp only [planOps, List.filterMap_cons, List.filterMap_nil, List.getElem?_cons_succ, List.getElem?_cons_zero, Option.map_some]
      repeat (first | (refine plan_still rfl (still_index rfl Try.underlying23 (by kernel_rfl) rfl k rfl (by omega)) ?_) | (refine plan_still rfl (still_loadS rfl rfl (fun w' hS => below_cell hc hS)) ?_) | (refine plan_still rfl (still_loadS rfl rfl (fun w' hS => below_cell hc2 hS)) ?_) | (refine plan_skip rfl ?_) | (refine plan_still (v := ?_) rfl (fun w' hS => ?_) ?_; rotate_left; (focus (go_simp; first | done | with_reducible rfl))); simp only [Act.put, List.setIfInBounds_toArray, List.set_cons_zero, List.set_cons_succ])
      refine plan_do ?_
      go_wp2_with (go_at_call 15; refine (same_at X Y (hr.kept hb3) (hr2.kept hb3) HL.out.1 HL.out.2).mono ?_)
      rintro e w4 ⟨rfl, n4, rfl⟩
      have hb4 := hb3.trans (⟨rfl, rfl, rfl, Nat.le_refl _, fun _ _ => rfl⟩ : Below wr.heap.size w3 (w3.drewN n4))
      clear hb3
      generalize w3.drewN n4 = w4 at *
      by_cases hxy : X = Y
      · have hd : decide (X = Y) = true := by simp [hxy]
        rw [hd]
        go_wp2
        refine ⟨hb4, ?_⟩
        repeat (first | (refine plan_skip rfl ?_) | (refine plan_still (v := ?_) rfl (fun w' hS => ?_) ?_; rotate_left; (focus (go_simp; first | done | with_reducible rfl))); simp only [Act.put, List.setIfInBounds_toArray, List.set_cons_zero, List.set_cons_succ])
        refine plan_nil ?_
        have hb5 := hbr.trans (hb4.mono hbr.size)
        go_wp2
        go_roundw
        case rel => exact ⟨k + 1, by omega, by go_num, fun j hj => by
          by_cases hjk : j < k
          · exact hall.out j hjk
          · obtain rfl : j = k := by omega
            rw [HXY.out.1, HXY.out.2, hxy], hb5⟩
        case measure => simp [intOf]; omega
      · have hd : decide (X = Y) = false := by simp [hxy]
        rw [hd]
        have HF : Hid (decide (ls = ms) = false) := by
          show _ = _
          simp
          intro e
          apply hxy
          rw [← HXY.out.1, ← HXY.out.2, e]
        go_wp2
        refine ⟨hb4, ?_⟩
        repeat (first | (refine plan_skip rfl ?_) | (refine plan_still (v := ?_) rfl (fun w' hS => ?_) ?_; rotate_left; (focus (go_simp; first | done | with_reducible rfl))); simp only [Act.put, List.setIfInBounds_toArray, List.set_cons_zero, List.set_cons_succ])
        refine plan_nil ?_
        have hb5 := hbr.trans (hb4.mono hbr.size)
        go_wp2
        go_ret
        exact ⟨by have h := HF.out; first | (rw [h]; done) | simpa using h, hb5⟩
    · have hkn : n = k := by omega
      subst hkn
      have hd : decide (ls = ms) = true := by
        simp
        exact getD_ext (by rw [← HN.out.1, ← HN.out.2]) (fun j hj => hall.out j (by rw [HN.out.1]; exact hj))
      have HD := Lib.hid hd
      clear hd
      go_wp2
      go_ret
      exact ⟨by have h := HD.out; first | (rw [h]; done) | simpa using h, hbr⟩
end Go.Proofs.Ytbacbgicfomkbaa
