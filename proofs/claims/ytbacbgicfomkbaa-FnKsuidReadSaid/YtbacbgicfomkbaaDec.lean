/- The text of a KSUID read: the package's digits of 62, decoded. -/
import Derived.Test.YtbacbgicfomkbaaDec0
namespace Go.Proofs.Ytbacbgicfomkbaa
open Go.RowKit
set_option linter.unusedVariables false
set_option linter.unusedSimpArgs false
set_option maxHeartbeats 8000000 in
set_option maxRecDepth 100000 in
theorem dec62_ok (gd : Nat) (cs : List Value) (td : TypeId) (b o1 : Nat) (N : Nat) (w : World) (hd : Blk w gd cs td) (hcs : cs.length = 20) (h1 : Rd w (some ⟨b, o1, none⟩) (writ d62 27 N)) (hN : N < 4294967296 ^ 5) :
    Calls Try.prog 70 #[.slice (some ⟨gd, 0, none⟩) 20 20, .slice (some ⟨b, o1, none⟩) 27 27] w fun e w' => e = .returned .nilIface ∧ Blk w' gd (bvs (be 20 N)) td ∧ w.grownBy w' (some gd) := by
  have HN := Lib.hid hN
  have CL := Lib.hid hcs
  have hcell : ∀ i, i < 27 → w.cell? ⟨b, o1 + i, none⟩ = some (.int .u8 (B (writ d62 27 N) i)) := by
    obtain ⟨b', o', e, hc⟩ := h1.2.resolve_left (by intro h; have := writ_length d62 27 N; rw [h] at this; cases this)
    cases e
    exact fun i hi => hc i (by rw [writ_length]; exact hi)
  have hdig : ∀ i, i < 27 → B (writ d62 27 N) i = (d62.getD (eg 27 N i) 0).toNat := fun i hi => B_writ _ _ _ _ hi
  have his : ∀ i, i < 27 → is62 (B (writ d62 27 N) i) := fun i hi => by rw [hdig i hi]; exact d62_is _ (eg_lt _ _ _)
  have hdg : ∀ j, j < 27 → (digs (writ d62 27 N))[j]? = some (.int .u8 (eg 27 N j : Nat)) := by
    intro j hj
    rw [digs_eq, List.getElem?_map, List.getElem?_range hj, Option.map_some, hdig j hj, d62_digit _ (eg_lt _ _ _)]
  have HDG := Lib.hid hdg
  have HIS := Lib.hid his
  clear hN hcs h1 hdig his hdg
  generalize writ d62 27 N = T at *
  have hcell0 := hcell 26 (by decide)
  have HC := Lib.hid hcell
  clear hcell
  go_enter Try.func70, Try.ntmps70
  go_wp2_with fail
  clear hcell0
  refine region_lex (fun w' => Below w.heap.size w w') 109 19 [(109, 1), (110, 1)] rfl (by kernel_rfl) (by kernel_rfl) rfl (by kernel_rfl) rfl (by intro c a d v w h; cases d <;> exact h) (fun _ _ h => h) ?_
  intro OPS w1 hpW hb1
  clear hpW
  have CELL : Hid (∀ i, i < 27 → ∀ w', Below w.heap.size w w' → w'.cell? ⟨b, o1 + i, none⟩ = some (.int .u8 (B T i))) := Lib.hid (fun i hi w' hS => by
    have := HC.out i hi
    rw [hS.cell (World.block_lt_of_cell? w _ this)]
    exact this)
  obtain ⟨pt, hpt⟩ : ∃ pt : Nat → Value, ∀ i, pt i = .pointer (some ⟨b, o1 + i, none⟩) := ⟨_, fun _ => rfl⟩
  obtain ⟨bt, hbt⟩ : ∃ bt : Nat → Value, ∀ i, bt i = .int .u8 (B T i : Nat) := ⟨_, fun _ => rfl⟩
  obtain ⟨dt, hdt⟩ : ∃ dt : Nat → Value, ∀ i, dt i = .int .u8 (v62 (B T i) : Nat) := ⟨_, fun _ => rfl⟩
  obtain ⟨sl, hsl⟩ : ∃ sl : Value, sl = .slice (some ⟨b, o1, none⟩) 27 27 := ⟨_, rfl⟩
  rw [← hsl]
  refine dec_groups (T := T) (b := b) (o1 := o1) (sl := sl) (pt := pt) (bt := bt) (dt := dt) hsl hpt hbt hdt (Nat.le_of_ble_eq_true rfl) rfl (lt27 (by refine ⟨?_, ?_, ?_, ?_, ?_, ?_, ?_, ?_, ?_, ?_, ?_, ?_, ?_, ?_, ?_, ?_, ?_, ?_, ?_, ?_, ?_, ?_, ?_, ?_, ?_, ?_, ?_⟩ <;> exact ⟨rfl, rfl, rfl, _, rfl⟩)) CELL.out HIS.out 27 0 rfl ?_
  refine dec_build (T := T) (fun j hj => (fr_dig (Nat.le_of_ble_eq_true rfl) 27 (Nat.le_refl _) j hj).trans (hdt j)) rfl rfl ?_
  clear hpt hbt hdt hsl
  simp only [fr, List.setIfInBounds_toArray, List.set_cons_zero, List.set_cons_succ]
  simp only [planOps2, strip, List.filterMap_cons, List.filterMap_nil, List.getElem?_cons_succ, List.getElem?_cons_zero, Option.map_some]

  refine plan_do ?_
  go_wp2_with (refine wp_alloc_blk arr27 hb1 rfl rfl rfl hb1.size ?_)
  intro w2 b2 g2 s2 hb2
  clear s2
  refine ⟨hb2, ?_⟩
  refine plan_do ?_
  have hgp : w.heap.size ≤ w1.heap.size := hb1.size
  generalize w1.heap.size = gp at *
  go_wp2_with (refine wp_store_blk arr27 hb2 rfl rfl rfl rfl b2 hgp rfl rfl (digs_one T) ?_)
  intro w3 b3 g3 s3 hb3
  clear s3
  refine ⟨hb3, ?_⟩
  refine plan_nil ?_
  have hgd := hd.lt
  have d3 := hd.kept hb3
  have G3 : w.grownBy w3 (some gd) := grown_below hb3 _
  have hgd3 : gd < gp := by omega
  clear hd b2 g2 g3 hb2 CELL HC HIS
  go_wp2_with (refine wp_alloc_blk arr27 (Below.refl w3.heap.size w3) rfl rfl rfl (Nat.le_refl _) ?_)
  intro w4 b4 g4 s4 hb4
  clear s4
  have p4 := b3.kept hb4
  have d4 := d3.kept hb4
  have G4 := grown_then G3 hb4
  have hq : gp < w3.heap.size := b3.lt
  have hq2 : w.heap.size ≤ w3.heap.size := hb3.size
  clear hb4 g4 b3 d3 G3 hb3
  generalize w3.heap.size = gq at *
  go_wp2_with (refine wp_store_blk arr27 (below_zero w4) rfl rfl rfl rfl b4 (Nat.zero_le _) rfl rfl (by decide) ?_)
  intro w5 b5 g5 s5 hb5
  have p5 := p4.grown g5 (by intro e; have := Option.some.inj e; omega)
  have d5 := d4.grown g5 (by intro e; have := Option.some.inj e; omega)
  have G5 := grown_new G4 g5 hq2
  clear hb5 s5 g5 b4 p4 d4 G4
  have LL : Hid ((bvs (be 20 N)).length = 20) := Lib.hid (by rw [bvs_length, be_length])
  have HT := Lib.hid (splice_end cs (bvs (be 20 N)) LL.out CL.out)
  go_wp2
  go_loopw [6, 7] (fun n bq wr => ∃ t m gb cq, t ≤ 5 ∧ n = .int .i64 ((20 - 4 * t : Nat) : Int) ∧ m ≤ 27 ∧ bq = .slice (some ⟨gb, 0, none⟩) m 27 ∧ (t = 0 → m = 27) ∧ N / 4294967296 ^ t < 62 ^ m ∧ (t = 0 ∨ m = 0 ∨ 62 ^ (m - 1) ≤ N / 4294967296 ^ t) ∧
    (∀ j, j < m → wr.cell? ⟨gb, j, none⟩ = some (.int .u8 (eg m (N / 4294967296 ^ t) j : Nat))) ∧ Blk wr gq cq 104 ∧ cq.length = 27 ∧ gb ≤ gq ∧ gd < gb ∧
    Blk wr gd (splice cs (20 - 4 * t) ((bvs (be 20 N)).drop (20 - 4 * t))) td ∧ w.grownBy wr (some gd)) (fun n _ _ => (intOf n).toNat)
  case atStart =>
    refine ⟨0, 27, gp, _, by omega, rfl, by omega, rfl, fun _ => rfl, ?_, .inl rfl, ?_, b5, rfl, by omega, by omega, by rw [HT.out]; exact d5, G5⟩
    · rw [Nat.pow_zero, Nat.div_one]
      exact Nat.lt_trans HN.out (by decide)
    · intro j hj
      rw [p5.cell, Nat.pow_zero, Nat.div_one]
      exact HDG.out j hj
  case round =>
    obtain ⟨t, m, gb, cq, ht, rfl, hm, rfl, ht0, hV, hnorm, hcell, hcq, hcl, hgb, hgdb, hdst, hG⟩ := hrel
    by_cases hm0 : m = 0
    · subst hm0
      have hV0 : N / 4294967296 ^ t = 0 := by simpa using hV
      have hz := zeros20 N t hV0 ht
      have hfill := splice_fill cs (bvs (be 20 N)) 0 (20 - 4 * t) (by rw [LL.out, CL.out]; decide) (by rw [LL.out]; omega)
      rw [hz] at hfill
      have hall : splice cs 0 (bvs (be 20 N)) = bvs (be 20 N) := by simp [splice, LL.out, CL.out]
      rw [hall, Nat.zero_add] at hfill
      have HF := Lib.hid hfill
      have hsl : (splice cs (20 - 4 * t) ((bvs (be 20 N)).drop (20 - 4 * t))).length = 20 := by rw [splice_len _ _ _ (by rw [List.length_drop, LL.out, CL.out]; omega)]; exact CL.out
      have HSL := Lib.hid hsl
      have ht20 : 20 - 4 * t ≤ 20 := by omega
      clear hV0 hz hfill hall hsl hV hnorm hcell ht0
      generalize 20 - 4 * t = n at *
      go_wp2_with (refine wp_alloc_blk arr20 (Below.refl wr.heap.size wr) rfl rfl rfl (Nat.le_refl _) ?_)
      intro w6 b6 g6 s6 hb6
      clear s6
      have d6 := hdst.kept hb6
      have G6 := grown_then hG hb6
      have hzz : Blk w6 wr.heap.size (bvs (List.replicate 20 0)) 58 := b6
      have r6 := hzz.rd (by decide)
      clear b6 g6 hdst hG
      generalize wr.heap.size = gz at *
      go_wp2_with fail
      refine region_plan (fun w' => Below w6.heap.size w6 w') [(0, 0), (1, 0), (2, 0), (3, 0), (4, 2)] rfl (by kernel_rfl) (by kernel_rfl) rfl (by intro c a d v w h; cases d <;> exact h) (fun _ _ h => h) ?_
      intro w7 hpW hb7
      clear hpW
      simp only [planOps, List.filterMap_cons, List.filterMap_nil, List.getElem?_cons_succ, List.getElem?_cons_zero, Option.map_some]
      refine plan_move rfl rfl ?_
      simp only [Act.put, List.setIfInBounds_toArray, List.set_cons_zero, List.set_cons_succ]
      refine plan_move rfl rfl ?_
      simp only [Act.put, List.setIfInBounds_toArray, List.set_cons_zero, List.set_cons_succ]
      refine plan_still rfl (still_slice_to rfl Try.underlying22 (by kernel_rfl) rfl rfl ht20 (by decide)) ?_
      simp only [Act.put, List.setIfInBounds_toArray, List.set_cons_zero, List.set_cons_succ]
      refine plan_still (v := .slice (some ⟨gz, 0, none⟩) 20 20) rfl (fun w' hS => by go_simp) ?_
      simp only [Act.put, List.setIfInBounds_toArray, List.set_cons_zero, List.set_cons_succ]
      refine plan_last ?_
      have d7 := d6.kept hb7
      have r7 := r6.kept hb7
      have G7 := grown_then G6 hb7
      go_wp2_with (refine wp_copy_min (k := n) rfl rfl Try.underlying22 (by kernel_rfl) rfl rfl d7 (List.replicate 20 0) r7 rfl (Nat.min_eq_right ht20) (by rw [HSL.out]; omega) (by decide) ?_)
      intro w8 b8 g8 s8
      clear s8
      have b8' : Blk w8 gd (splice (splice cs n (List.drop n (bvs (be 20 N)))) 0 (bvs (List.take n (List.replicate 20 0)))) td := b8
      rw [HF.out] at b8'
      have G8 := grown_trans G7 g8
      go_wp2
      refine plan_nil ?_
      go_wp2
      go_ret
      exact ⟨rfl, b8', G8⟩
    · have ht4 : t < 5 := by
        rcases Nat.lt_or_ge t 5 with h | h
        · exact h
        · obtain rfl : t = 5 := by omega
          rcases hnorm with h' | h' | h'
          · omega
          · omega
          · exfalso
            have h4 : 0 < N / 4294967296 ^ 5 := Nat.lt_of_lt_of_le (Nat.pow_pos (by decide)) h'
            have h5 : 4294967296 ^ 5 ≤ N := (Nat.div_pos_iff.1 h4).2
            exact absurd (Nat.lt_of_le_of_lt h5 HN.out) (Nat.lt_irrefl _)
      have hmp : 0 < m := by omega
      obtain ⟨p, hp⟩ : ∃ p, 16 - 4 * t = p := ⟨_, rfl⟩
      have hp4 : 20 - 4 * t = p + 4 := by omega
      have hp16 : p ≤ 16 := by omega
      have hV' : N / 4294967296 ^ (t + 1) = N / 4294967296 ^ t / 4294967296 := by rw [Nat.pow_succ, ← Nat.div_div_eq_div_mul]
      have y0 := dec_byte N t 0 ht4 (by decide)
      have y1 := dec_byte N t 1 ht4 (by decide)
      have y2 := dec_byte N t 2 ht4 (by decide)
      have y3 := dec_byte N t 3 ht4 (by decide)
      rw [hp] at y0 y1 y2 y3
      rw [hp4] at hdst ⊢
      have hl20 : (be 20 N).length = 20 := be_length 20 N
      have hword := dec_word cs (bvs (be 20 N)) p _ _ _ _ (by rw [LL.out, CL.out]) (bvs_get (be 20 N) p (by omega)) (bvs_get (be 20 N) (p + 1) (by omega)) (bvs_get (be 20 N) (p + 2) (by omega)) (bvs_get (be 20 N) (p + 3) (by omega))
      have hsl : (splice cs (p + 4) ((bvs (be 20 N)).drop (p + 4))).length = 20 := by rw [splice_len _ _ _ (by rw [List.length_drop, LL.out, CL.out]; omega)]; exact CL.out
      have HW := Lib.hid hword
      have HSL := Lib.hid hsl
      have HV' := Lib.hid hV'
      have HVm := Lib.hid hV
      have HP := Lib.hid hp4
      have HPT : Hid (20 - 4 * (t + 1) = p) := Lib.hid (by omega)
      have z0 : Hid (((B (be 20 N) p : Nat) : Int) = ((N / 4294967296 ^ t % 4294967296 : Nat) : Int) / 16777216 % 256) := Lib.hid (by rw [Nat.add_zero] at y0; rw [y0]; simp only [Nat.reducePow, Nat.reduceSub]; omega)
      have z1 : Hid (((B (be 20 N) (p + 1) : Nat) : Int) = ((N / 4294967296 ^ t % 4294967296 : Nat) : Int) / 65536 % 256) := Lib.hid (by rw [y1]; simp only [Nat.reducePow, Nat.reduceSub]; omega)
      have z2 : Hid (((B (be 20 N) (p + 2) : Nat) : Int) = ((N / 4294967296 ^ t % 4294967296 : Nat) : Int) / 256 % 256) := Lib.hid (by rw [y2]; simp only [Nat.reducePow, Nat.reduceSub]; omega)
      have z3 : Hid (((B (be 20 N) (p + 3) : Nat) : Int) = ((N / 4294967296 ^ t % 4294967296 : Nat) : Int) % 256) := Lib.hid (by rw [y3]; simp only [Nat.reducePow, Nat.reduceSub]; omega)
      clear y0 y1 y2 y3 hword hsl hV' hV hp4 hp hl20 ht0 hnorm
      generalize N / 4294967296 ^ t = V at *
      generalize be 20 N = E at *
      go_wp2
      go_loopw [9, 10, 138] (fun qs r i wi => ∃ k q cq', k ≤ m ∧ i = .int .i64 (k : Int) ∧ q ≤ k ∧ qs = .slice (some ⟨gq, 0, none⟩) q 27 ∧ r = .int .u64 ((V / 62 ^ (m - k) % 4294967296 : Nat) : Int) ∧ V / 62 ^ (m - k) / 4294967296 < 62 ^ q ∧ (q = 0 ∨ 62 ^ (q - 1) ≤ V / 62 ^ (m - k) / 4294967296) ∧
        (∀ j, k ≤ j → j < m → wi.cell? ⟨gb, j, none⟩ = some (.int .u8 (eg m V j : Nat))) ∧ Blk wi gq cq' 104 ∧ cq'.length = 27 ∧ (∀ j, j < q → cq'[j]? = some (.int .u8 (eg q (V / 62 ^ (m - k) / 4294967296) j : Nat))) ∧
        Blk wi gd (splice cs (p + 4) ((bvs E).drop (p + 4))) td ∧ w.grownBy wi (some gd)) (fun _ _ i _ => m - (intOf i).toNat)
      case atStart =>
        refine ⟨0, 0, cq, Nat.zero_le _, rfl, Nat.le_refl _, rfl, ?_, ?_, .inl rfl, fun j _ hj => hcell j hj, hcq, hcl, fun j hj => absurd hj (Nat.not_lt_zero _), hdst, hG⟩
        · rw [Nat.sub_zero, Nat.div_eq_of_lt HVm.out]; rfl
        · rw [Nat.sub_zero, Nat.div_eq_of_lt HVm.out]; decide
      case round =>
        obtain ⟨k, q, cq', hk, rfl, hqk, rfl, rfl, hR, hRn, hcell', hcq', hcl', hqd, hdst', hG'⟩ := hrel
        by_cases hlt : k < m
        · have hc := hcell' k (Nat.le_refl _) hlt
          have hpre := eg_pre m V k hlt
          have hcb := eg_lt m V k
          have hsplit := Nat.div_add_mod (V / 62 ^ (m - k)) 4294967296
          have hr62 : V / 62 ^ (m - k) % 4294967296 < 4294967296 := Nat.mod_lt _ (by decide)
          rw [← hsplit] at hpre
          have hquo := equo_step 4294967296 (V / 62 ^ (m - k) / 4294967296) (V / 62 ^ (m - k) % 4294967296) (eg m V k) hr62
          have hrem := erem_step 4294967296 (V / 62 ^ (m - k) / 4294967296) (V / 62 ^ (m - k) % 4294967296) (eg m V k)
          rw [← hpre] at hquo hrem
          clear hpre hsplit
          generalize V / 62 ^ (m - k) % 4294967296 = r at *
          generalize V / 62 ^ (m - k) / 4294967296 = R at *
          have Hcell := Lib.hid hcell'
          clear hcell'
          generalize eg m V k = c at *
          obtain ⟨d, hd⟩ : ∃ d, (c + r * 62) / 4294967296 = d := ⟨_, rfl⟩
          obtain ⟨r', hr'⟩ : ∃ r', (c + r * 62) % 4294967296 = r' := ⟨_, rfl⟩
          rw [hd] at hquo
          rw [hr'] at hrem
          have hdI : ((c : Int) + (r : Int) * 62) / 4294967296 = (d : Int) := by omega
          have hrI : ((c : Int) + (r : Int) * 62) % 4294967296 = (r' : Int) := by omega
          have hdB : d < 62 := by omega
          have HQ := Lib.hid hquo
          have HR := Lib.hid hrem
          clear hquo hrem hd hr'
          by_cases happ : q = 0 ∧ d = 0
          · obtain ⟨rfl, rfl⟩ := happ
            go_wp2
            go_roundw
            case rel =>
              have e0 : R = 0 := by simp at hR; omega
              exact ⟨k + 1, 0, cq', by omega, by go_num, by omega, rfl, by rw [HR.out, hrI], by rw [HQ.out, e0]; decide, .inl rfl, fun j h1 h2 => Hcell.out j (by omega) h2, hcq', hcl', fun j hj => absurd hj (Nat.not_lt_zero _), hdst', hG'⟩
            case measure => simp [intOf]; omega
          · have hlt4 := estep_lt hR hdB
            have hge4 := estep_ge hRn happ
            rw [← HQ.out] at hlt4 hge4
            have Hlt4 := Lib.hid hlt4
            have Hge4 := Lib.hid hge4
            have Hqd := Lib.hid hqd
            clear hlt4 hge4 hR hRn hqd
            by_cases hq0 : q = 0
            · subst hq0
              have hq0b : (((0 : Nat) : Int) != 0) = false := rfl
              have hd0b : ((d : Int) != 0) = true := by rw [bne_iff_ne]; omega
              go_wp2_with (at_builtin; refine wp_append_room (below_zero _) rfl rfl Try.underlying22 (by kernel_rfl) rfl rfl rfl rfl hcq' (by omega) (by omega) (Nat.zero_le _) (Nat.zero_le _) ?_)
              intro w4 b4 g4 _
              have c4 := step_cells hcq' b4 g4 hqk Hcell.out
              have q4 := estep_digits Hqd.out (by omega) hdB
              rw [← HQ.out] at q4
              have d4 := hdst'.grown g4 (by intro e; have := Option.some.inj e; omega)
              have G4 := grown_new hG' g4 hq2
              have C4 := Lib.hid c4
              have Q4 := Lib.hid q4
              clear c4 q4 g4 hcq' hdst' hG' hc
              go_wp2
              go_roundw
              case rel => ((repeat apply Exists.intro); refine ⟨?_, rfl⟩; exact ⟨k + 1, 0 + 1, _, by omega, by go_num, by omega, rfl, by rw [HR.out], Hlt4.out, .inr Hge4.out, C4.out, b4, by rw [List.length_set]; exact hcl', Q4.out, d4, G4⟩)
              case measure => simp [intOf]; omega
            · have hq0b : ((q : Int) != 0) = true := by rw [bne_iff_ne]; omega
              go_wp2_with (at_builtin; refine wp_append_room (below_zero _) rfl rfl Try.underlying22 (by kernel_rfl) rfl rfl rfl rfl hcq' (by omega) (by omega) (Nat.zero_le _) (Nat.zero_le _) ?_)
              intro w4 b4 g4 _
              have c4 := step_cells hcq' b4 g4 hqk Hcell.out
              have q4 := estep_digits Hqd.out (by omega) hdB
              rw [← HQ.out] at q4
              have d4 := hdst'.grown g4 (by intro e; have := Option.some.inj e; omega)
              have G4 := grown_new hG' g4 hq2
              have C4 := Lib.hid c4
              have Q4 := Lib.hid q4
              clear c4 q4 g4 hcq' hdst' hG' hc
              go_wp2
              go_roundw
              case rel => ((repeat apply Exists.intro); refine ⟨?_, rfl⟩; exact ⟨k + 1, q + 1, _, by omega, by go_num, by omega, rfl, by rw [HR.out], Hlt4.out, .inr Hge4.out, C4.out, b4, by rw [List.length_set]; exact hcl', Q4.out, d4, G4⟩)
              case measure => simp [intOf]; omega
        · obtain rfl : k = m := by omega
          rw [Nat.sub_self, Nat.pow_zero, Nat.div_one] at hR hRn hqd ⊢
          have hr62 : V % 4294967296 < 4294967296 := Nat.mod_lt _ (by decide)
          have HR := Lib.hid hR
          have HRn := Lib.hid hRn
          have Hqd := Lib.hid hqd
          clear hR hRn hqd hcell' hcell
          generalize V % 4294967296 = r at *
          go_wp2_with (refine wp_store_b (i := p) rfl rfl (by kernel_rfl) rfl rfl (B E (p)) (by have := z0.out; omega) hdst' (by (try simp only [List.length_set]); rw [HSL.out]; omega) ?_)
          intro x0 e0 f0 _
          have HG0 := grown_trans hG' f0
          have hk0 := hcq'.grown f0 (by intro e; have := Option.some.inj e; omega)
          clear f0
          go_wp2_with (refine wp_store_b (i := p + 1) rfl rfl (by kernel_rfl) rfl rfl (B E (p + 1)) (by have := z1.out; omega) e0 (by (try simp only [List.length_set]); rw [HSL.out]; omega) ?_)
          intro x1 e1 f1 _
          have HG1 := grown_trans HG0 f1
          have hk1 := hk0.grown f1 (by intro e; have := Option.some.inj e; omega)
          clear f1
          go_wp2_with (refine wp_store_b (i := p + 2) rfl rfl (by kernel_rfl) rfl rfl (B E (p + 2)) (by have := z2.out; omega) e1 (by (try simp only [List.length_set]); rw [HSL.out]; omega) ?_)
          intro x2 e2 f2 _
          have HG2 := grown_trans HG1 f2
          have hk2 := hk1.grown f2 (by intro e; have := Option.some.inj e; omega)
          clear f2
          go_wp2_with (refine wp_store_b (i := p + 3) rfl rfl (by kernel_rfl) rfl rfl (B E (p + 3)) (by have := z3.out; omega) e2 (by (try simp only [List.length_set]); rw [HSL.out]; omega) ?_)
          intro x3 e3 f3 _
          have HG3 := grown_trans HG2 f3
          have hk3 := hk2.grown f3 (by intro e; have := Option.some.inj e; omega)
          clear f3
          rw [HW.out] at e3
          have C4 : Hid (∀ j, j < q → x3.cell? ⟨gq, j, none⟩ = some (.int .u8 (eg q (N / 4294967296 ^ (t + 1)) j : Nat))) := by
            intro j hj
            rw [hk3.cell, HV'.out]
            exact Hqd.out j hj
          have hR' := HR.out
          have hRn' := HRn.out
          rw [← HV'.out] at hR' hRn'
          have HR' := Lib.hid hR'
          have HRn' := Lib.hid hRn'
          clear hR' hRn' e0 e1 e2 HG0 HG1 HG2 hk0 hk1 hk2 hdst' hcq' hG'
          go_wp2
          go_roundw
          case rel => exact ⟨t + 1, q, gq, cq', by omega, by rw [HPT.out], by omega, rfl, fun h => absurd h (Nat.succ_ne_zero t), HR'.out, .inr HRn'.out, C4.out, hk3, hcl', Nat.le_refl _, by omega, by rw [HPT.out]; exact e3, HG3⟩
          case measure => simp [intOf]; omega
end Go.Proofs.Ytbacbgicfomkbaa
