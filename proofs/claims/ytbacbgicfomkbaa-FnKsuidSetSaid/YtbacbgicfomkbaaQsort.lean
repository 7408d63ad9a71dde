/- Contract of quickSort and of Sort, over a block of KSUIDs. -/
import Derived.Test.YtbacbgicfomkbaaPart
import Derived.Test.YtbacbgicfomkbaaKList
import Derived.Test.YtbacbgicfomkbaaKs
import Derived.Test.YtbacbgicfomkbaaDrawF
namespace Go.Proofs.Ytbacbgicfomkbaa
open Go.RowKit
set_option linter.unusedVariables false
set_option linter.unusedSimpArgs false

/-- The place of an element of twenty cells. -/
theorem still_index20 {P : Program} {S : World → Prop} {o : Oper} {a : Act} {t e : TypeId} {x y : Operand} (ho : o.op = .indexAddr t x y) (hu : P.underlying t = some (.slice e)) (hs : (P.info? e).map (·.size) = some 20)
    {b n c : Nat} (hx : a.eval x = .slice (some ⟨b, 0, none⟩) n c) (i : Nat) (hy : a.eval y = .int .i64 (i : Int)) (hi : i < n) : ∀ w', S w' → (execOp a.eval o).run P w' = .ok (.value (.pointer (some ⟨b, i * 20, none⟩))) w' := by
  intro w' _
  cases hq : P.info? e with
  | none => simp [hq] at hs
  | some inf =>
    have hs1 : inf.size = 20 := by simpa [hq] using hs
    unfold execOp
    simp [ho, hx, hy, Instr.indexAt, run_underlying hu, asIntOf, sizeOf, typeInfo, hq, hs1, hi, Result.andThen, Addr.add]
    try (intro h; exact h.symm)

theorem flatK_at' {ks : List (List UInt8)} (h : All20 ks) (i : Nat) (hi : i < ks.length) (more : List Value) : ((flatK ks ++ more).drop (i * 20)).take 20 = bvs (ks.getD i []) := by
  rw [Nat.mul_comm]; exact flatK_at h i hi more
theorem flatK_set' {ks : List (List UInt8)} (h : All20 ks) (i : Nat) (hi : i < ks.length) (x : List UInt8) (hx : x.length = 20) (more : List Value) : splice (flatK ks ++ more) (i * 20) (bvs x) = flatK (ks.set i x) ++ more := by
  rw [Nat.mul_comm]; exact flatK_set h i hi x hx more
theorem flatK_rd {w : World} {g : Nat} {ks : List (List UInt8)} {more : List Value} {t : TypeId} (h : Blk w g (flatK ks ++ more) t) (h20 : All20 ks) (i : Nat) (hi : i < ks.length) : Rd w (some ⟨g, i * 20, none⟩) (ks.getD i []) := by
  refine ⟨by rw [h20.at hi]; decide, .inr ⟨g, i * 20, rfl, fun j hj => ?_⟩⟩
  have hj' : j < 20 := by rw [h20.at hi] at hj; exact hj
  rw [h.cell]
  have e := flatK_at' h20 i hi more
  have := congrArg (fun l => l[j]?) e
  simp only [List.getElem?_take, List.getElem?_drop, if_pos hj'] at this
  rw [this, bvs_get _ _ hj]

set_option maxRecDepth 100000 in
set_option maxHeartbeats 4000000 in
theorem qs_step (A T C : List (List UInt8)) (p : List UInt8) (g n cap : Nat) (more : List Value) (t : TypeId) (w : World) (hT : 0 < T.length)
    (hn : n = A.length + T.length + 1 + C.length) (hn' : n ≤ 1000) (h20 : All20 (A ++ (T ++ p :: C))) (hg : Blk w g (flatK (A ++ (T ++ p :: C)) ++ more) t) (hcap : n ≤ cap)
    (hi : Nat) (hhi : hi = A.length + T.length)
    (rec : ∀ (A S C : List (List UInt8)) (l h : Int) (w : World), l = A.length → h = (A.length : Int) + S.length - 1 → S.length ≤ T.length → n = A.length + S.length + C.length → All20 (A ++ (S ++ C)) → Blk w g (flatK (A ++ (S ++ C)) ++ more) t →
      Calls Try.prog 57 #[.slice (some ⟨g, 0, none⟩) n cap, .int .i64 l, .int .i64 h] w
        fun e w' => e = .returned (.tuple #[]) ∧ ∃ S', S'.Perm S ∧ S'.Pairwise leL ∧ Blk w' g (flatK (A ++ (S' ++ C)) ++ more) t ∧ w.grownBy w' (some g)) :
    Calls Try.prog 57 #[.slice (some ⟨g, 0, none⟩) n cap, .int .i64 (A.length : Nat), .int .i64 hi] w
        fun e w' => e = .returned (.tuple #[]) ∧ ∃ S', S'.Perm (T ++ [p]) ∧ S'.Pairwise leL ∧ Blk w' g (flatK (A ++ (S' ++ C)) ++ more) t ∧ w.grownBy w' (some g) := by
  have hb := Below.refl w.heap.size w
  have hp20 : p.length = 20 := h20 p (by simp)
  have P20 := Lib.hid (show (bvs p).length = 20 by rw [bvs_length]; exact hp20)
  have HP := Lib.hid hp20
  have hat := flatK_at' h20 (A.length + T.length) (by simp) more
  have hgd : (A ++ (T ++ p :: C)).getD (A.length + T.length) [] = p := by
    rw [← List.append_assoc]
    exact getD_mid _ _ _ _ (List.length_append).symm
  rw [hgd] at hat
  have HAT := Lib.hid hat
  have H20 := Lib.hid h20
  have HPS := Lib.hid (Part.start A T C p)
  clear hat hgd hp20 h20
  obtain ⟨lo, hlo⟩ : ∃ lo : Nat, lo = A.length := ⟨_, rfl⟩
  have HLO := Lib.hid hlo
  rw [← hlo] at hhi hn HPS HAT
  rw [← hlo]
  rw [← hhi] at hn HAT
  have HM := Lib.hid hhi
  have hlt : lo < hi := by omega
  have hltn : hi < n := by omega
  have HN := Lib.hid hn
  clear hlo hhi hn hT
  have HR := Lib.hid rec
  have REL := Lib.hid hg
  clear rec
  go_enter Try.func57, Try.ntmps57
  go_wp2_with (first | refine wp_load_part ksArr rfl rfl rfl hg HAT.out P20.out ?_ | refine wp_alloc_blk ksArr hb rfl rfl rfl (Nat.le_refl _) ?_)
  intro w1 b1 g1 s1 hb1
  go_wp2_with (refine wp_store_blk ksArr hb1 rfl rfl rfl rfl b1 (Nat.le_refl _) rfl P20.out (bvs_one _) ?_)
  intro w2 b2 g2 s2 hb2
  have q2 := hg.kept hb2
  obtain ⟨gp, hgp⟩ : ∃ gp, gp = w.heap.size := ⟨_, rfl⟩
  have hne : gp ≠ g := by have := hg.lt; omega
  rw [← hgp] at b2
  have HGP := Lib.hid hgp
  rw [← hgp]
  clear hg b1 g1 g2 s1 s2 hb1 hgp REL
  have hst : w.grownBy w2 (some g) := grown_below hb2 _
  clear hb2 hb
  have H20s : All20 (A ++ (T ++ p :: C)) ↔ ∀ x ∈ A ++ (T ++ p :: C), x.length = 20 := Iff.rfl
  clear H20s HAT
  go_wp2_with fail
  go_loopw [7, 8] (fun i j wr => ∃ (k i1 : Nat) (ks : List (List UInt8)), lo ≤ k ∧ k ≤ hi ∧ j = .int .i64 k ∧ i = .int .i64 ((i1 : Int) - 1) ∧ lo ≤ i1 ∧ i1 ≤ k ∧ Hid (Part A T C p ks (k - lo) i1) ∧ Hid (All20 ks ∧ ks.length = n) ∧ Blk wr g (flatK ks ++ more) t ∧ Blk wr gp (bvs p) 59 ∧ w2.grownBy wr (some g)) (fun _ j _ => hi - (intOf j).toNat)
  case atStart => exact ⟨lo, lo, _, Nat.le_refl _, by omega, rfl, rfl, Nat.le_refl _, Nat.le_refl _, by rw [Nat.sub_self]; exact HPS, ⟨H20.out, by have h1 := HN.out; have h2 := HM.out; have h3 := HLO.out; simp; omega⟩, q2, b2, World.grownBy.refl _ _⟩
  case round =>
    obtain ⟨k, i1, ks, hk1, hk2, rfl, rfl, hi1, hi2, HP1, HK, qr, br, gr⟩ := hrel
    clear q2 b2
    have rp := br.rd (by rw [HP.out]; decide)
    by_cases hlt2 : k < hi
    · have hne2 : ((k : Int) != (hi : Int)) = true := neb_ne (by omega)
      have rk := flatK_rd qr HK.out.1 k (by rw [HK.out.2]; omega)
      have lk : Hid ((ks.getD k []).length = 20) := HK.out.1.at (by rw [HK.out.2]; omega)
      go_wp2_with fail
      refine region_plan (fun w' => Below wr.heap.size wr w') [(0, 0), (1, 0), (2, 0), (3, 0), (4, 0), (5, 1), (6, 0)] rfl (by kernel_rfl) (by kernel_rfl) rfl (by intro c a d v w h; cases d <;> exact h) (fun _ _ h => h) ?_
      intro w3 hpW hb3
      clear hpW
      simp only [planOps, List.filterMap_cons, List.filterMap_nil, List.getElem?_cons_succ, List.getElem?_cons_zero, Option.map_some]
      repeat (first | (refine plan_still rfl (still_index20 rfl Try.underlying70 (by kernel_rfl) rfl k rfl (by omega)) ?_) | (refine plan_skip rfl ?_) | (refine plan_still (v := ?_) rfl (fun w' hS => ?_) ?_; rotate_left; (focus (go_simp; first | done | with_reducible rfl))); simp only [Act.put, List.setIfInBounds_toArray, List.set_cons_zero, List.set_cons_succ])
      refine plan_do ?_
      go_wp2_with (go_at_call 56; refine (bytesCompare_at (ks.getD k []) p (rk.kept hb3) (rp.kept hb3) lk.out HP.out).mono ?_)
      rintro e w4 ⟨he, rfl⟩
      obtain ⟨c, hcc⟩ : ∃ c, c = cmpL (ks.getD k []) p := ⟨_, rfl⟩
      rw [← hcc] at he
      have HCC := Lib.hid hcc
      clear hcc
      subst he
      go_wp2
      refine ⟨hb3, ?_⟩
      repeat (first | (refine plan_skip rfl ?_) | (refine plan_still (v := ?_) rfl (fun w' hS => ?_) ?_; rotate_left; (focus (go_simp; first | done | with_reducible rfl))); simp only [Act.put, List.setIfInBounds_toArray, List.set_cons_zero, List.set_cons_succ])
      refine plan_nil ?_
      have q3 := qr.kept hb3
      have b3 := br.kept hb3
      have g3 := grown_then gr hb3
      clear hb3 qr br gr rk rp
      have hkl : A.length + (k - lo) = k := by have := HLO.out; omega
      have HKL := Lib.hid hkl
      have hkT : k - lo < T.length := by have := HM.out; omega
      have HKT := Lib.hid hkT
      clear hkl hkT
      by_cases hc : c < 0
      · have hP' : Part A T C p (swapL ks i1 k) (k + 1 - lo) (i1 + 1) := by
          have h := HP1.out.less HKT.out (by rw [HKL.out, ← HCC.out]; exact hc)
          rw [HKL.out] at h
          rw [show k + 1 - lo = k - lo + 1 by omega]
          exact h
        have HP2 := Lib.hid hP'
        have i1n : i1 < n := by omega
        have kn : k < n := by omega
        have HA := Lib.hid (flatK_at' HK.out.1 k (by rw [HK.out.2]; omega) more)
        have HB := Lib.hid (flatK_at' HK.out.1 i1 (by rw [HK.out.2]; omega) more)
        have li : Hid ((ks.getD i1 []).length = 20) := HK.out.1.at (by rw [HK.out.2]; omega)
        have HS1 := Lib.hid (flatK_set' HK.out.1 i1 (by rw [HK.out.2]; omega) (ks.getD k []) lk.out more)
        have HS2 := Lib.hid (flatK_set' (HK.out.1.set i1 lk.out) k (by rw [List.length_set, HK.out.2]; omega) (ks.getD i1 []) li.out more)
        have HL1 : Hid ((flatK ks ++ more).length = n * 20 + more.length) := by show _ = _; rw [List.length_append, flatK_length HK.out.1, HK.out.2, Nat.mul_comm]
        have HL2 : Hid ((flatK (ks.set i1 (ks.getD k [])) ++ more).length = n * 20 + more.length) := by show _ = _; rw [List.length_append, flatK_length (HK.out.1.set i1 lk.out), List.length_set, HK.out.2, Nat.mul_comm]
        have HKS : Hid (All20 (swapL ks i1 k) ∧ (swapL ks i1 k).length = n) := ⟨(HK.out.1.set i1 lk.out).set k li.out, by rw [swapL_length]; exact HK.out.2⟩
        have HSW : Hid (swapL ks i1 k = (ks.set i1 (ks.getD k [])).set k (ks.getD i1 [])) := rfl
        generalize ks.getD k [] = ek at *
        generalize ks.getD i1 [] = ei at *
        generalize swapL ks i1 k = ks2 at *
        rw [← HSW.out] at HS2
        generalize ks.set i1 ek = ks1 at *
        clear HSW
        clear hP'
        go_wp2_with fail
        refine region_planF (fun w' => Below w3.heap.size w3 w') [(0, 3), (1, 3), (2, 3), (3, 3), (4, 3), (5, 3), (6, 3), (7, 0), (8, 3), (9, 3), (10, 3), (11, 0), (12, 3), (13, 2), (14, 3), (15, 2)] rfl (by kernel_rfl) (by kernel_rfl) rfl (by intro c a d v w h; cases d <;> exact h) (fun _ _ h => h) ?_
        intro w4 hpW hb4
        clear hpW
        simp only [planOps, List.filterMap_cons, List.filterMap_nil, List.getElem?_cons_succ, List.getElem?_cons_zero, Option.map_some]
        repeat (first | (refine planF_still rfl (still_index20 rfl Try.underlying70 (by kernel_rfl) rfl k rfl (by omega)) ?_) | (refine planF_free rfl (still_index20 rfl Try.underlying70 (by kernel_rfl) rfl k rfl (by omega)) ?_) | (refine planF_still rfl (still_index20 rfl Try.underlying70 (by kernel_rfl) rfl i1 rfl (by omega)) ?_) | (refine planF_free rfl (still_index20 rfl Try.underlying70 (by kernel_rfl) rfl i1 rfl (by omega)) ?_) | (refine planF_still rfl (still_part ksArr rfl rfl (fun w' hS => q3.kept hS) HA.out (by rw [bvs_length]; exact lk.out)) ?_) | (refine planF_free rfl (still_part ksArr rfl rfl (fun w' hS => q3.kept hS) HA.out (by rw [bvs_length]; exact lk.out)) ?_) | (refine planF_still rfl (still_part ksArr rfl rfl (fun w' hS => q3.kept hS) HB.out (by rw [bvs_length]; exact li.out)) ?_) | (refine planF_free rfl (still_part ksArr rfl rfl (fun w' hS => q3.kept hS) HB.out (by rw [bvs_length]; exact li.out)) ?_) | (refine planF_still (v := ?_) rfl (fun w' hS => ?_) ?_; rotate_left; (focus (go_simp; first | done | with_reducible rfl))) | (refine planF_free (v := ?_) rfl (fun w' hS => ?_) ?_; rotate_left; (focus (go_simp; first | done | with_reducible rfl))); simp only [Act.put, List.setIfInBounds_toArray, List.set_cons_zero, List.set_cons_succ])
        have q4 := q3.kept hb4
        have b4 := b3.kept hb4
        have g4 := grown_then g3 hb4
        clear hb4 q3 b3 g3
        refine planF_last ?_
        go_wp2_with (refine wp_store_part ksArr rfl rfl rfl rfl (by rw [bvs_length]; exact lk.out) (bvs_one _) q4 (by rw [HL1.out]; omega) ?_)
        intro w5 q5 g5 s5
        rw [HS1.out] at q5
        have b5 := b4.grown g5 (by simpa using hne)
        have g45 := grown_trans g4 g5
        clear q4 b4 g4 g5 s5
        go_wp2_with fail
        repeat (first | (refine planF_still rfl (still_index20 rfl Try.underlying70 (by kernel_rfl) rfl k rfl (by omega)) ?_) | (refine planF_free rfl (still_index20 rfl Try.underlying70 (by kernel_rfl) rfl k rfl (by omega)) ?_) | (refine planF_still (v := ?_) rfl (fun w' hS => ?_) ?_; rotate_left; (focus (go_simp; first | done | with_reducible rfl))) | (refine planF_free (v := ?_) rfl (fun w' hS => ?_) ?_; rotate_left; (focus (go_simp; first | done | with_reducible rfl))); simp only [Act.put, List.setIfInBounds_toArray, List.set_cons_zero, List.set_cons_succ])
        refine planF_last ?_
        go_wp2_with (refine wp_store_part ksArr rfl rfl rfl rfl (by rw [bvs_length]; exact li.out) (bvs_one _) q5 (by rw [HL2.out]; omega) ?_)
        intro w6 q6 g6 s6
        rw [HS2.out] at q6
        have b6 := b5.grown g6 (by simpa using hne)
        have g56 := grown_trans g45 g6
        clear q5 b5 g45 g6 s6
        go_wp2_with fail
        refine planF_nil ?_
        go_wp2_with fail
        go_roundw
        case rel => exact ⟨k + 1, i1 + 1, ks2, by omega, by omega, by go_num, by go_num, by omega, by omega, HP2, HKS, q6, b6, g56⟩
        case measure => simp [intOf]; omega
      · go_wp2
        go_roundw
        case rel => exact ⟨k + 1, i1, ks, by omega, by omega, by go_num, rfl, hi1, by omega, by
          have h := HP1.out.more HKT.out (by rw [HKL.out, ← HCC.out]; exact hc)
          rw [show k + 1 - lo = k - lo + 1 by omega]
          exact h, HK, q3, b3, g3⟩
        case measure => simp [intOf]; omega
    · have hkk : hi = k := by omega
      subst hkk
      have hTl : hi - lo = T.length := by have := HM.out; omega
      rw [hTl] at HP1
      have hF := HP1.out.fin
      have hlh : A.length + T.length = hi := by rw [← HLO.out, ← HM.out]
      rw [hlh] at hF
      have HF := Lib.hid hF
      clear hF hlh hTl HP1
      have i1n : i1 < n := by omega
      have rk := flatK_rd qr HK.out.1 hi (by rw [HK.out.2]; omega)
      have ri := flatK_rd qr HK.out.1 i1 (by rw [HK.out.2]; omega)
      rw [HF.out.1] at rk
      have li : Hid ((ks.getD i1 []).length = 20) := HK.out.1.at (by rw [HK.out.2]; omega)
      have HA := Lib.hid (flatK_at' HK.out.1 hi (by rw [HK.out.2]; omega) more)
      rw [HF.out.1] at HA
      have HB := Lib.hid (flatK_at' HK.out.1 i1 (by rw [HK.out.2]; omega) more)
      have HS1 := Lib.hid (flatK_set' HK.out.1 i1 (by rw [HK.out.2]; omega) p HP.out more)
      have HS2 := Lib.hid (flatK_set' (HK.out.1.set i1 HP.out) hi (by rw [List.length_set, HK.out.2]; omega) (ks.getD i1 []) li.out more)
      have HL1 : Hid ((flatK ks ++ more).length = n * 20 + more.length) := by show _ = _; rw [List.length_append, flatK_length HK.out.1, HK.out.2, Nat.mul_comm]
      have HL2 : Hid ((flatK (ks.set i1 p) ++ more).length = n * 20 + more.length) := by show _ = _; rw [List.length_append, flatK_length (HK.out.1.set i1 HP.out), List.length_set, HK.out.2, Nat.mul_comm]
      have hsw : swapL ks i1 hi = (ks.set i1 p).set hi (ks.getD i1 []) := by unfold swapL; rw [HF.out.1]
      have HKS : Hid (All20 (swapL ks i1 hi) ∧ (swapL ks i1 hi).length = n) := by rw [hsw]; exact ⟨(HK.out.1.set i1 HP.out).set hi li.out, by simp [HK.out.2]⟩
      rw [← hsw] at HS2
      clear hsw
      generalize swapL ks i1 hi = ks2 at *
      generalize ks.getD i1 [] = ei at *
      generalize ks.set i1 p = ks1 at *
      go_wp2_with fail
      refine region_plan (fun w' => Below wr.heap.size wr w') [(0, 0), (1, 0), (2, 0), (3, 0), (4, 0), (5, 0), (6, 0), (7, 0), (8, 1), (9, 0)] rfl (by kernel_rfl) (by kernel_rfl) rfl (by intro c a d v w h; cases d <;> exact h) (fun _ _ h => h) ?_
      intro w3 hpW hb3
      clear hpW
      simp only [planOps, List.filterMap_cons, List.filterMap_nil, List.getElem?_cons_succ, List.getElem?_cons_zero, Option.map_some]
      repeat (first | (refine plan_still rfl (still_index20 rfl Try.underlying70 (by kernel_rfl) rfl hi rfl (by omega)) ?_) | (refine plan_still rfl (still_index20 rfl Try.underlying70 (by kernel_rfl) rfl i1 rfl (by omega)) ?_) | (refine plan_skip rfl ?_) | (refine plan_still (v := ?_) rfl (fun w' hS => ?_) ?_; rotate_left; (focus (go_simp; first | done | with_reducible rfl))); simp only [Act.put, List.setIfInBounds_toArray, List.set_cons_zero, List.set_cons_succ])
      refine plan_do ?_
      go_wp2_with (go_at_call 56; refine (bytesCompare_at p ei (rk.kept hb3) (ri.kept hb3) HP.out li.out).mono ?_)
      rintro e w4 ⟨he, rfl⟩
      obtain ⟨c, hcc⟩ : ∃ c, c = cmpL p ei := ⟨_, rfl⟩
      rw [← hcc] at he
      have HCC := Lib.hid hcc
      clear hcc
      subst he
      go_wp2
      refine ⟨hb3, ?_⟩
      repeat (first | (refine plan_skip rfl ?_) | (refine plan_still (v := ?_) rfl (fun w' hS => ?_) ?_; rotate_left; (focus (go_simp; first | done | with_reducible rfl))); simp only [Act.put, List.setIfInBounds_toArray, List.set_cons_zero, List.set_cons_succ])
      refine plan_nil ?_
      have q3 := qr.kept hb3
      have g3 := grown_then gr hb3
      clear hb3 qr br gr rk ri rp
      by_cases hc : c < 0
      · have HPD : Hid (Parted A T C p ks2 i1) := HF.out.2.1 (by rw [← HCC.out]; exact hc)
        go_wp2_with fail
        refine region_planF (fun w' => Below w3.heap.size w3 w') [(0, 3), (1, 3), (2, 3), (3, 3), (4, 3), (5, 3), (6, 3), (7, 0), (8, 3), (9, 3), (10, 3), (11, 0), (12, 3), (13, 2), (14, 3), (15, 2)] rfl (by kernel_rfl) (by kernel_rfl) rfl (by intro c a d v w h; cases d <;> exact h) (fun _ _ h => h) ?_
        intro w4 hpW hb4
        clear hpW
        simp only [planOps, List.filterMap_cons, List.filterMap_nil, List.getElem?_cons_succ, List.getElem?_cons_zero, Option.map_some]
        repeat (first | (refine planF_still rfl (still_index20 rfl Try.underlying70 (by kernel_rfl) rfl hi rfl (by omega)) ?_) | (refine planF_free rfl (still_index20 rfl Try.underlying70 (by kernel_rfl) rfl hi rfl (by omega)) ?_) | (refine planF_still rfl (still_index20 rfl Try.underlying70 (by kernel_rfl) rfl i1 rfl (by omega)) ?_) | (refine planF_free rfl (still_index20 rfl Try.underlying70 (by kernel_rfl) rfl i1 rfl (by omega)) ?_) | (refine planF_still rfl (still_part ksArr rfl rfl (fun w' hS => q3.kept hS) HA.out (by rw [bvs_length]; exact HP.out)) ?_) | (refine planF_free rfl (still_part ksArr rfl rfl (fun w' hS => q3.kept hS) HA.out (by rw [bvs_length]; exact HP.out)) ?_) | (refine planF_still rfl (still_part ksArr rfl rfl (fun w' hS => q3.kept hS) HB.out (by rw [bvs_length]; exact li.out)) ?_) | (refine planF_free rfl (still_part ksArr rfl rfl (fun w' hS => q3.kept hS) HB.out (by rw [bvs_length]; exact li.out)) ?_) | (refine planF_still (v := ?_) rfl (fun w' hS => ?_) ?_; rotate_left; (focus (go_simp; first | done | with_reducible rfl))) | (refine planF_free (v := ?_) rfl (fun w' hS => ?_) ?_; rotate_left; (focus (go_simp; first | done | with_reducible rfl))); simp only [Act.put, List.setIfInBounds_toArray, List.set_cons_zero, List.set_cons_succ])
        have q4 := q3.kept hb4
        have g4 := grown_then g3 hb4
        clear hb4 q3 g3
        refine planF_last ?_
        go_wp2_with (refine wp_store_part ksArr rfl rfl rfl rfl (by rw [bvs_length]; exact HP.out) (bvs_one _) q4 (by rw [HL1.out]; omega) ?_)
        intro w5 q5 g5 s5
        rw [HS1.out] at q5
        have g45 := grown_trans g4 g5
        clear q4 g4 g5 s5
        go_wp2_with fail
        repeat (first | (refine planF_still rfl (still_index20 rfl Try.underlying70 (by kernel_rfl) rfl hi rfl (by omega)) ?_) | (refine planF_free rfl (still_index20 rfl Try.underlying70 (by kernel_rfl) rfl hi rfl (by omega)) ?_) | (refine planF_still (v := ?_) rfl (fun w' hS => ?_) ?_; rotate_left; (focus (go_simp; first | done | with_reducible rfl))) | (refine planF_free (v := ?_) rfl (fun w' hS => ?_) ?_; rotate_left; (focus (go_simp; first | done | with_reducible rfl))); simp only [Act.put, List.setIfInBounds_toArray, List.set_cons_zero, List.set_cons_succ])
        refine planF_last ?_
        go_wp2_with (refine wp_store_part ksArr rfl rfl rfl rfl (by rw [bvs_length]; exact li.out) (bvs_one _) q5 (by rw [HL2.out]; omega) ?_)
        intro w6 q6 g6 s6
        rw [HS2.out] at q6
        have g56 := grown_trans g45 g6
        clear q5 g45 g6 s6
        go_wp2_with fail
        refine planF_nil ?_
        obtain ⟨L, R, hks, hpm, hL, hR, hii⟩ := HPD.out
        have HKF := HKS
        rw [hks] at q6 HKF
        have hT2 : L.length + R.length = T.length := by have := hpm.length_eq; rwa [List.length_append] at this
        have hT3 := HM.out
        have hA0 := HLO.out
        have hN0 := HN.out
        have e1 : (lo : Int) = (A.length : Nat) := by rw [hA0]
        have e2 : ((i1 : Int) - 1) = ((A.length : Nat) : Int) + ((L.length : Nat) : Int) - 1 := by rw [hii]; omega
        have e4 : n = A.length + L.length + (p :: (R ++ C)).length := by simp; omega
        have E1 := Lib.hid e1
        have E2 := Lib.hid e2
        have E3 := Lib.hid (show L.length ≤ T.length by omega)
        have E4 := Lib.hid e4
        have HII := Lib.hid hii
        have HT2 := Lib.hid hT2
        clear hT2 hT3 hA0 hN0 e1 e2 e4 hii
        go_wp2_with (go_at_call 57; refine (HR.out A L (p :: (R ++ C)) _ _ _ E1.out E2.out E3.out E4.out HKF.out.1 q6).mono ?_)
        intro e w8
        try simp only [and_imp, forall_exists_index]
        intro he L' hpL hsL q8 g8
        subst he
        have hre : A ++ (L' ++ p :: (R ++ C)) = (A ++ (L' ++ [p])) ++ (R ++ C) := by simp
        rw [hre] at q8
        have hA9 : All20 ((A ++ (L' ++ [p])) ++ (R ++ C)) := by
          intro x hx
          refine HKF.out.1 x ?_
          have := hpL.mem_iff (a := x)
          simp only [List.mem_append, List.mem_cons, List.not_mem_nil, or_false] at hx ⊢
          rw [this] at hx
          rcases hx with (hx | hx | hx) | hx | hx <;> simp [hx]
        have E5 : Hid (((i1 : Int) + 1) = (((A ++ (L' ++ [p])).length : Nat) : Int)) := by show _ = _; have h1 := HII.out; have h2 := hpL.length_eq; simp; omega
        have E6 : Hid ((hi : Int) = (((A ++ (L' ++ [p])).length : Nat) : Int) + ((R.length : Nat) : Int) - 1) := by show _ = _; have h1 := HM.out; have h2 := hpL.length_eq; have h3 := HT2.out; have h4 := HLO.out; simp; omega
        have E7 : Hid (n = (A ++ (L' ++ [p])).length + R.length + C.length) := by show _ = _; have h1 := HN.out; have h2 := hpL.length_eq; have h3 := HT2.out; have h4 := HLO.out; have h5 := HM.out; simp; omega
        have E8 : Hid (R.length ≤ T.length) := by show _ ≤ _; have h3 := HT2.out; omega
        have HA9 := Lib.hid hA9
        have HPL := Lib.hid (And.intro hpL hsL)
        clear hA9 hre hpL hsL
        go_wp2_with (go_at_call 57; refine (HR.out (A ++ (L' ++ [p])) R C _ _ _ E5.out E6.out E8.out E7.out HA9.out q8).mono ?_)
        intro e w9
        try simp only [and_imp, forall_exists_index]
        intro he R' hpR hsR q9 g9
        subst he
        go_wp2
        go_end0
        have hj := qs_join HPL.out.1 hpR HPL.out.2 hsR hL hR
        refine ⟨rfl, L' ++ p :: R', ?_, hj.1, ?_, grown_trans (grown_trans (grown_trans hst g56) g8) g9⟩
        · refine hj.2.trans ?_
          have a1 : (L ++ p :: R).Perm (p :: (L ++ R)) := List.perm_middle
          exact a1.trans ((hpm.cons p).trans (List.perm_append_comm (l₁ := [p]) (l₂ := T)))
        · have e : A ++ (L' ++ p :: R' ++ C) = (A ++ (L' ++ [p])) ++ (R' ++ C) := by simp
          rw [e]
          exact q9
      · have HPD : Hid (Parted A T C p ks i1) := HF.out.2.2 (by rw [← HCC.out]; omega)
        obtain ⟨L, R, hks, hpm, hL, hR, hii⟩ := HPD.out
        have HKF := HK
        rw [hks] at q3 HKF
        have hT2 : L.length + R.length = T.length := by have := hpm.length_eq; rwa [List.length_append] at this
        have hT3 := HM.out
        have hA0 := HLO.out
        have hN0 := HN.out
        have e1 : (lo : Int) = (A.length : Nat) := by rw [hA0]
        have e2 : ((i1 : Int) - 1) = ((A.length : Nat) : Int) + ((L.length : Nat) : Int) - 1 := by rw [hii]; omega
        have e4 : n = A.length + L.length + (p :: (R ++ C)).length := by simp; omega
        have E1 := Lib.hid e1
        have E2 := Lib.hid e2
        have E3 := Lib.hid (show L.length ≤ T.length by omega)
        have E4 := Lib.hid e4
        have HII := Lib.hid hii
        have HT2 := Lib.hid hT2
        clear hT2 hT3 hA0 hN0 e1 e2 e4 hii
        go_wp2_with (go_at_call 57; refine (HR.out A L (p :: (R ++ C)) _ _ _ E1.out E2.out E3.out E4.out HKF.out.1 q3).mono ?_)
        intro e w8
        try simp only [and_imp, forall_exists_index]
        intro he L' hpL hsL q8 g8
        subst he
        have hre : A ++ (L' ++ p :: (R ++ C)) = (A ++ (L' ++ [p])) ++ (R ++ C) := by simp
        rw [hre] at q8
        have hA9 : All20 ((A ++ (L' ++ [p])) ++ (R ++ C)) := by
          intro x hx
          refine HKF.out.1 x ?_
          have := hpL.mem_iff (a := x)
          simp only [List.mem_append, List.mem_cons, List.not_mem_nil, or_false] at hx ⊢
          rw [this] at hx
          rcases hx with (hx | hx | hx) | hx | hx <;> simp [hx]
        have E5 : Hid (((i1 : Int) + 1) = (((A ++ (L' ++ [p])).length : Nat) : Int)) := by show _ = _; have h1 := HII.out; have h2 := hpL.length_eq; simp; omega
        have E6 : Hid ((hi : Int) = (((A ++ (L' ++ [p])).length : Nat) : Int) + ((R.length : Nat) : Int) - 1) := by show _ = _; have h1 := HM.out; have h2 := hpL.length_eq; have h3 := HT2.out; have h4 := HLO.out; simp; omega
        have E7 : Hid (n = (A ++ (L' ++ [p])).length + R.length + C.length) := by show _ = _; have h1 := HN.out; have h2 := hpL.length_eq; have h3 := HT2.out; have h4 := HLO.out; have h5 := HM.out; simp; omega
        have E8 : Hid (R.length ≤ T.length) := by show _ ≤ _; have h3 := HT2.out; omega
        have HA9 := Lib.hid hA9
        have HPL := Lib.hid (And.intro hpL hsL)
        clear hA9 hre hpL hsL
        go_wp2_with (go_at_call 57; refine (HR.out (A ++ (L' ++ [p])) R C _ _ _ E5.out E6.out E8.out E7.out HA9.out q8).mono ?_)
        intro e w9
        try simp only [and_imp, forall_exists_index]
        intro he R' hpR hsR q9 g9
        subst he
        go_wp2
        go_end0
        have hj := qs_join HPL.out.1 hpR HPL.out.2 hsR hL hR
        refine ⟨rfl, L' ++ p :: R', ?_, hj.1, ?_, grown_trans (grown_trans (grown_trans hst g3) g8) g9⟩
        · refine hj.2.trans ?_
          have a1 : (L ++ p :: R).Perm (p :: (L ++ R)) := List.perm_middle
          exact a1.trans ((hpm.cons p).trans (List.perm_append_comm (l₁ := [p]) (l₂ := T)))
        · have e : A ++ (L' ++ p :: R' ++ C) = (A ++ (L' ++ [p])) ++ (R' ++ C) := by simp
          rw [e]
          exact q9
end Go.Proofs.Ytbacbgicfomkbaa
