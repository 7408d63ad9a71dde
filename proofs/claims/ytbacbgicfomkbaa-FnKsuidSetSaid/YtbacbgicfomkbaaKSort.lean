/- Contracts of quickSort, Sort and IsSorted. -/
import Derived.Test.YtbacbgicfomkbaaQsort
import Derived.Test.YtbacbgicfomkbaaMore
namespace Go.Proofs.Ytbacbgicfomkbaa
open Go.RowKit
set_option linter.unusedVariables false
set_option linter.unusedSimpArgs false

theorem qs_short (g n cap : Nat) (more : List Value) (t : TypeId) (A S C : List (List UInt8)) (l h : Int) (w : World) (h1 : S.length ≤ 1) (hlh : ¬ l < h) (hg : Blk w g (flatK (A ++ (S ++ C)) ++ more) t) :
    Calls Try.prog 57 #[.slice (some ⟨g, 0, none⟩) n cap, .int .i64 l, .int .i64 h] w
      fun e w' => e = .returned (.tuple #[]) ∧ ∃ S', S'.Perm S ∧ S'.Pairwise leL ∧ Blk w' g (flatK (A ++ (S' ++ C)) ++ more) t ∧ w.grownBy w' (some g) := by
  have hd : (decide (l < h)) = false := by simp [hlh]
  have hsort : S.Pairwise leL := by
    match S, h1 with
    | [], _ => exact List.Pairwise.nil
    | [_], _ => simp
    | _ :: _ :: _, h1 => simp at h1
  go_enter Try.func57, Try.ntmps57
  go_wp2
  go_end0
  exact ⟨rfl, S, List.Perm.refl _, hsort, hg, World.grownBy.refl _ _⟩

theorem quickSort_ok (g n cap : Nat) (more : List Value) (t : TypeId) (hn' : n ≤ 1000) (hcap : n ≤ cap) : ∀ (m : Nat) (A S C : List (List UInt8)) (l h : Int) (w : World), S.length ≤ m → l = (A.length : Nat) → h = ((A.length : Nat) : Int) + ((S.length : Nat) : Int) - 1 →
    n = A.length + S.length + C.length → All20 (A ++ (S ++ C)) → Blk w g (flatK (A ++ (S ++ C)) ++ more) t →
    Calls Try.prog 57 #[.slice (some ⟨g, 0, none⟩) n cap, .int .i64 l, .int .i64 h] w
      fun e w' => e = .returned (.tuple #[]) ∧ ∃ S', S'.Perm S ∧ S'.Pairwise leL ∧ Blk w' g (flatK (A ++ (S' ++ C)) ++ more) t ∧ w.grownBy w' (some g) := by
  intro m
  induction m with
  | zero =>
    intro A S C l h w hS hl hh hn h20 hg
    exact qs_short g n cap more t A S C l h w (by omega) (by omega) hg
  | succ m ih =>
    intro A S C l h w hS hl hh hn h20 hg
    by_cases h1 : S.length ≤ 1
    · exact qs_short g n cap more t A S C l h w h1 (by omega) hg
    · obtain ⟨T, p, rfl⟩ : ∃ T p, S = T ++ [p] := ⟨S.dropLast, S.getLast (by rintro rfl; simp at h1), (List.dropLast_concat_getLast _).symm⟩
      simp only [List.length_append, List.length_cons, List.length_nil] at h1 hS hn hh
      obtain rfl : l = ((A.length : Nat) : Int) := hl
      obtain ⟨hi, hhi⟩ : ∃ hi : Nat, hi = A.length + T.length := ⟨_, rfl⟩
      obtain rfl : h = ((hi : Nat) : Int) := by omega
      have e : A ++ (T ++ [p] ++ C) = A ++ (T ++ p :: C) := by simp
      rw [e] at h20 hg
      exact qs_step A T C p g n cap more t w (by omega) (by omega) hn' h20 hg hcap hi hhi (fun A S C l h w hl hh hS hn h20 hg => ih A S C l h w (by omega) hl hh hn h20 hg)

/-- Sort. -/
theorem ksort_ok (ks : List (List UInt8)) (g n cap : Nat) (more : List Value) (t : TypeId) (w : World) (hn : ks.length = n) (hn' : n ≤ 1000) (hcap : n ≤ cap) (h20 : All20 ks) (hg : Blk w g (flatK ks ++ more) t) :
    Calls Try.prog 41 #[.slice (some ⟨g, 0, none⟩) n cap] w
      fun e w' => e = .returned (.tuple #[]) ∧ ∃ js, js.Perm ks ∧ js.Pairwise leL ∧ Blk w' g (flatK js ++ more) t ∧ w.grownBy w' (some g) := by
  have hq := quickSort_ok g n cap more t hn' hcap n [] ks [] 0 ((n : Int) - 1) w (by omega) rfl (by simp; omega) (by simp; omega) (by simpa using h20) (by simpa using hg)
  have HQ := Lib.hid hq
  clear hq
  go_enter Try.func41, Try.ntmps41
  go_wp2_with (go_at_call 57; refine HQ.out.mono ?_)
  intro e w8
  try simp only [and_imp, forall_exists_index]
  intro he js h1 h2 h3 h4
  subst he
  go_wp2
  go_end0
  exact ⟨rfl, js, h1, h2, by simpa using h3, h4⟩

/-- The tail of a slice of KSUIDs. -/
theorem wp_tail20 {P : Program} {ops : Array Oper} {rest : List Oper} {o : Oper} {a : Act} {w : World} {Q : Exit → Act → World → Prop} (hgd : o.guard = none) {t e : TypeId} {x y : Operand} (ho : o.op = .slice t x (some y) none none) (hu : P.underlying t = some (.slice e)) (hs : (P.info? e).map (·.size) = some 20)
    {b n c : Nat} (hx : a.eval x = .slice (some ⟨b, 0, none⟩) n c) (hy : a.eval y = .int .i64 1) (hn : 1 ≤ n) (hc : n ≤ c)
    (h : ∀ ad, (1 < n → ad = some ⟨b, 20, none⟩) → wpList P ops Q rest (a.put o.dst (.slice ad (n - 1) (c - 1))) w) : wpList P ops Q (o :: rest) a w := by
  refine wpList_plain hgd fun K hK => ?_
  cases hq : P.info? e with
  | none => simp [hq] at hs
  | some inf =>
    have hs1 : inf.size = 20 := by simpa [hq] using hs
    unfold Oper.wp execOp
    simp [ho, hx, hy, Instr.sliceAt, run_underlying hu, Instr.slice, Instr.sliceBounds, Instr.sliceBound, asIntOf, sizeOf, typeInfo, hq, Result.andThen, hn, hs1, Addr.add]
    rw [if_pos (by omega : (1 : Int) ≤ n)]
    exact hK _ _ (h _ (fun h1 => by rw [if_neg (by omega)]; simp))

theorem isSorted_nil (ad : Option Addr) (c : Nat) (w : World) :
    Calls Try.prog 40 #[.slice ad 0 c] w fun e w' => e = .returned (.bool true) ∧ w' = w := by
  go_enter Try.func40, Try.ntmps40
  go_wp2
  go_ret
  exact ⟨rfl, rfl⟩

set_option maxRecDepth 100000 in
set_option maxHeartbeats 4000000 in
theorem isSorted_ok (ks : List (List UInt8)) (g n cap : Nat) (more : List Value) (t : TypeId) (w : World) (hn : ks.length = n) (h0 : 0 < n) (hn' : n ≤ 1000) (hcap : n ≤ cap) (h20 : All20 ks) (hg : Blk w g (flatK ks ++ more) t) :
    Calls Try.prog 40 #[.slice (some ⟨g, 0, none⟩) n cap] w
      fun e w' => ∃ b, e = .returned (.bool b) ∧ (b = true ↔ ks.Pairwise leL) ∧ Below w.heap.size w w' := by
  have hb := Below.refl w.heap.size w
  have HK : Hid (All20 ks ∧ ks.length = n) := ⟨h20, hn⟩
  have H1 := Lib.hid (flatK_at' h20 0 (by omega) more)
  have lk : ∀ k, k < n → (ks.getD k []).length = 20 := fun k hk => h20.at (by omega)
  have LK := Lib.hid lk
  have HA : Hid (∀ k, k + 1 < n → ((flatK ks ++ more).drop (20 + k * 20)).take 20 = bvs (ks.getD (k + 1) [])) := fun k hk => by
    have := flatK_at' h20 (k + 1) (by omega) more
    rw [show 20 + k * 20 = (k + 1) * 20 by omega]
    exact this
  rw [Nat.zero_mul] at H1
  have hz : ((n : Int) != 0) = true := by rw [bne_iff_ne]; omega
  clear hn h20 lk
  generalize hks0 : ks.getD 0 [] = k0 at *
  have l0 : Hid (k0.length = 20) := by rw [← hks0]; exact LK.out 0 h0
  have HK0 := Lib.hid hks0
  clear hks0
  go_enter Try.func40, Try.ntmps40
  go_wp2_with (first | refine wp_load_part ksArr rfl rfl rfl hg H1.out (by rw [bvs_length]; exact l0.out) ?_ | refine wp_alloc_blk ksArr hb rfl rfl rfl (Nat.le_refl _) ?_)
  intro w1 b1 g1 s1 hb1
  go_wp2_with (refine wp_store_blk ksArr hb1 rfl rfl rfl rfl b1 (Nat.le_refl _) rfl (by rw [bvs_length]; exact l0.out) (bvs_one _) ?_)
  intro w2 b2 g2 s2 hb2
  have q2 := hg.kept hb2
  obtain ⟨gm, hgm⟩ : ∃ gm, gm = w.heap.size := ⟨_, rfl⟩
  have hne : gm ≠ g := by have := hg.lt; omega
  rw [← hgm] at b2
  have HGM := Lib.hid hgm
  have HG := Lib.hid hg
  rw [← hgm]
  clear hg b1 g1 g2 s1 s2 hb1 hgm hb
  go_wp2_with (refine wp_tail20 rfl rfl Try.underlying70 (by kernel_rfl) rfl rfl h0 hcap ?_)
  intro ad had
  have HAD := Lib.hid had
  clear had
  obtain ⟨m, hm⟩ : ∃ m, n = m + 1 := ⟨n - 1, by omega⟩
  have hm1 : n - 1 = m := by omega
  rw [hm1]
  have hmlt : m < n := by omega
  have hmle : n ≤ m + 1 := by omega
  clear hm hm1
  go_wp2_with fail
  go_loopw [15] (fun i wr => ∃ k : Nat, k ≤ m ∧ i = .int .i64 k ∧ Hid (∀ j, j < k → leL (ks.getD j []) (ks.getD (j + 1) [])) ∧ Blk wr gm (bvs (ks.getD k [])) 59 ∧ Below w.heap.size w wr) (fun i _ => m - (intOf i).toNat)
  case atStart => exact ⟨0, Nat.zero_le _, rfl, fun j hj => absurd hj (Nat.not_lt_zero j), by rw [HK0.out]; exact b2, hb2⟩
  case round =>
    obtain ⟨k, hk, rfl, hle, br, hbr⟩ := hrel
    clear b2 hb2
    have hlg := HG.out.lt
    have hbs := hbr.size
    have qr := HG.out.kept hbr
    by_cases hlt : k < m
    · have hadd := HAD.out (by omega)
      subst hadd
      obtain ⟨ek, hek⟩ : ∃ ek, ek = ks.getD k [] := ⟨_, rfl⟩
      obtain ⟨en, hen⟩ : ∃ en, en = ks.getD (k + 1) [] := ⟨_, rfl⟩
      have hm1' := HA.out k (by omega)
      have le1 : Hid (ek.length = 20) := by rw [hek]; exact LK.out k (by omega)
      have le2 : Hid (en.length = 20) := by rw [hen]; exact LK.out (k + 1) (by omega)
      rw [← hen] at hm1'
      rw [← hek] at br
      have HE := Lib.hid (And.intro hek hen)
      have HM1 := Lib.hid hm1'
      clear hek hen hm1' hlg q2
      go_wp2_with (first | refine wp_load_part ksArr rfl rfl rfl qr HM1.out (by rw [bvs_length]; exact le2.out) ?_ | refine wp_alloc_blk ksArr hbr rfl rfl rfl (by omega) ?_)
      intro w3 b3 g3 s3 hb3
      have br3 := br.grown g3 (by simp)
      go_wp2_with (refine wp_store_blk ksArr hb3 rfl rfl rfl rfl b3 (by omega) rfl (by rw [bvs_length]; exact le2.out) (bvs_one _) ?_)
      intro w4 b4 g4 s4 hb4
      have hlt' := br.lt
      have br4 := br3.grown g4 (by simp; omega)
      have rk := br4.rd (by rw [le1.out]; decide)
      have rn := b4.rd (by rw [le2.out]; decide)
      clear br br3 b3 g3 g4 s3 s4 hb3 qr
      go_wp2_with fail
      refine region_plan (fun w' => Below w4.heap.size w4 w') [(0, 0), (1, 0), (2, 1), (3, 0)] rfl (by kernel_rfl) (by kernel_rfl) rfl (by intro c a d v w h; cases d <;> exact h) (fun _ _ h => h) ?_
      intro w5 hpW hb5
      clear hpW
      simp only [planOps, List.filterMap_cons, List.filterMap_nil, List.getElem?_cons_succ, List.getElem?_cons_zero, Option.map_some]
      repeat (first | (refine plan_skip rfl ?_) | (refine plan_still (v := ?_) rfl (fun w' hS => ?_) ?_; rotate_left; (focus (go_simp; first | done | with_reducible rfl))); simp only [Act.put, List.setIfInBounds_toArray, List.set_cons_zero, List.set_cons_succ])
      refine plan_do ?_
      go_wp2_with (go_at_call 56; refine (bytesCompare_at ek en (rk.kept hb5) (rn.kept hb5) le1.out le2.out).mono ?_)
      rintro e w6 ⟨he, rfl⟩
      obtain ⟨c, hcc⟩ : ∃ c, c = cmpL ek en := ⟨_, rfl⟩
      rw [← hcc] at he
      have HCC := Lib.hid hcc
      clear hcc
      subst he
      go_wp2
      refine ⟨hb5, ?_⟩
      repeat (first | (refine plan_skip rfl ?_) | (refine plan_still (v := ?_) rfl (fun w' hS => ?_) ?_; rotate_left; (focus (go_simp; first | done | with_reducible rfl))); simp only [Act.put, List.setIfInBounds_toArray, List.set_cons_zero, List.set_cons_succ])
      refine plan_nil ?_
      have b5 := b4.kept hb5
      have br5 := br4.kept hb5
      have hbw := hb4.trans (hb5.mono hb4.size)
      clear hb5 rk rn b4 br4 hb4
      by_cases hc : 0 < c
      · go_wp2
        go_ret
        refine ⟨false, rfl, ⟨fun h => (by cases h), fun h => ?_⟩, hbw⟩
        have hs := sorted_chain h k (by rw [HK.out.2]; omega)
        rw [← HE.out.1, ← HE.out.2] at hs
        unfold leL at hs
        rw [← HCC.out] at hs
        omega
      · go_wp2_with (first | refine wp_load_blk ksArr rfl rfl rfl b5 (by rw [bvs_length]; exact le2.out) ?_ | refine wp_store_blk ksArr hbw rfl rfl rfl rfl br5 (by rw [HGM.out]; exact Nat.le_refl _) (by rw [bvs_length]; exact le1.out) (by rw [bvs_length]; exact le2.out) (bvs_one _) ?_)
        intro w7 b7 g7 s7 hb7
        go_wp2
        go_roundw
        case rel => exact ⟨k + 1, by omega, by go_num, fun j hj => by
          by_cases hjk : j < k
          · exact hle.out j hjk
          · obtain rfl : j = k := by omega
            rw [← HE.out.1, ← HE.out.2]
            unfold leL
            rw [← HCC.out]
            omega, by rw [← HE.out.2]; exact b7, hb7⟩
        case measure => simp [intOf]; omega
    · have hkm : m = k := by omega
      subst hkm
      go_wp2
      go_ret
      exact ⟨true, rfl, ⟨fun _ => chain_sorted fun i hi => hle.out i (by rw [HK.out.2] at hi; omega), fun _ => rfl⟩, hbr⟩
end Go.Proofs.Ytbacbgicfomkbaa
