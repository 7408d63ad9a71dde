/- Contracts of uuid.Parse: the URN, the text between braces, the digits alone, texts of other lengths. -/
import Derived.Test.YtdjppileeeljnaaDoorUuidParse
import Derived.WalkMore
namespace Go.Proofs.YtdjppileeeljnaaDoor
open Go.RowKit
set_option linter.unusedVariables false
set_option linter.unusedSimpArgs false

def urnL : List UInt8 := [117, 114, 110, 58, 117, 117, 105, 100, 58]
theorem or_self8 (c : UInt8) : bits .or .u8 (c.toNat : Int) (c.toNat : Int) = (c.toNat : Int) := by
  have := c.toNat_lt
  rw [u8_or_nat _ _ this this, Nat.or_self]
theorem eqfold_same (s : ByteArray) (w : World) (hs : s.size ≤ 1000) (ha : ∀ (j : Nat) (h : j < s.size), (s[j]'h).toNat < 128) :
    Calls Tryd.prog 18 #[.string s, .string s] w fun e w' => e = .returned (.bool true) ∧ w' = w := by
  have HA := Lib.hid ha
  clear ha
  go_enter Tryd.func18, Tryd.ntmps18
  go_wp2
  go_step3
  go_wp2
  go_loopw [5] (fun i wr => wr = w ∧ ∃ k : Nat, k ≤ s.size ∧ i = .int .i64 k) (fun i _ => s.size - (intOf i).toNat)
  case atStart => exact ⟨rfl, 0, Nat.zero_le _, rfl⟩
  case round =>
    obtain ⟨rfl, k, hk, rfl⟩ := hrel
    by_cases hlt : k < s.size
    · obtain ⟨c, hc⟩ : ∃ c, s[k] = c := ⟨_, rfl⟩
      have h128 := HA.out k hlt
      rw [hc] at h128
      have hc' : ∀ h, s[k]'h = c := fun h => hc
      have hor := or_self8 c
      have hge : ¬ (128 : Int) ≤ (c.toNat : Int) := by omega
      clear hc
      go_wp2
      go_roundw
      case rel => exact ⟨by trivial, k + 1, by omega, by go_num⟩
      case measure => simp [intOf]; omega
    · obtain rfl : k = s.size := by omega
      go_wp2
      rw [Exit.noGoto_ret]
      go_ret
      exact ⟨rfl, rfl⟩

theorem B_app (p q : List UInt8) (i : Nat) (h : i < p.length) : B (p ++ q) i = B p i := by
  unfold B
  rw [List.getD_eq_getElem?_getD, List.getD_eq_getElem?_getD, List.getElem?_append, if_pos h]
theorem std_app (p q : List UInt8) (hp : p.length = 36) : stdOk (p ++ q) = stdOk p ∧ stdB (p ++ q) = stdB p := by
  have h : ∀ i, i < 36 → B (p ++ q) i = B p i := fun i hi => B_app p q i (by omega)
  have hk : ∀ k, k < 16 → pairOk (p ++ q) (posU k) = pairOk p (posU k) ∧ pairV (p ++ q) (posU k) = pairV p (posU k) := fun k hk => by
    have := posU_lt k hk
    unfold pairOk pairV
    rw [h _ (by omega), h _ this]
    exact ⟨rfl, rfl⟩
  have hd : dashOk (p ++ q) = dashOk p := by
    unfold dashOk
    rw [h 8 (by decide), h 13 (by decide), h 18 (by decide), h 23 (by decide)]
  refine ⟨?_, ?_⟩
  · unfold stdOk
    rw [hd]
    congr 1
    rw [Bool.eq_iff_iff, List.all_eq_true, List.all_eq_true]
    exact ⟨fun h' k hk' => by rw [← (hk k (List.mem_range.1 hk')).1]; exact h' k hk', fun h' k hk' => by rw [(hk k (List.mem_range.1 hk')).1]; exact h' k hk'⟩
  · unfold stdB
    exact List.map_congr_left fun k hk' => (hk k (List.mem_range.1 hk')).2
def urnB : ByteArray := ⟨#[117, 114, 110, 58, 117, 117, 105, 100, 58]⟩
theorem urn_small : ∀ (j : Nat) (h : j < urnB.size), (urnB[j]'h).toNat < 128 := by
  have : ∀ (j : Fin urnB.size), (urnB[j.val]'j.isLt).toNat < 128 := by decide
  exact fun j h => this ⟨j, h⟩

set_option maxRecDepth 100000 in
theorem parse45 (p : List UInt8) (hp : p.length = 36) (w : World) (hT : XTab w) (hd : dashOk p = true) :
    Calls Tryd.prog 14 #[str (urnL ++ p)] w fun e w' => Answer p e ∧ Below w.heap.size w w' := by
  have hb := Below.refl w.heap.size w
  have HP := Lib.hid hp
  obtain ⟨s, hs⟩ : ∃ s : ByteArray, s = ⟨p.toArray⟩ := ⟨_, rfl⟩
  have hsz : s.size = 36 := by rw [hs]; show p.toArray.size = 36; simpa using hp
  obtain ⟨r, hr⟩ : ∃ r : ByteArray, r = ⟨(urnL ++ p).toArray⟩ := ⟨_, rfl⟩
  have hrz : r.size = 45 := by rw [hr]; show (urnL ++ p).toArray.size = 45; simp [hp, urnL]
  have hr1 : r.extract 0 9 = urnB := by rw [hr, bytes_part]; rfl
  have hr2 : r.extract 9 45 = s := by rw [hr, bytes_part, hs]; congr 2; show (p.drop 0).take 36 = p; rw [List.drop_zero, List.take_of_length_le (by omega)]
  unfold str
  rw [← hr]
  clear hp hr
  obtain ⟨d8, d13, d18, d23⟩ := dash_parts hd
  obtain ⟨c8, g8, e8⟩ := str_get hs 8 (by rw [HP.out]; decide)
  rw [d8] at e8
  have n8 : c8.toNat = 45 := e8.symm
  have k8 : ∀ h : 8 < s.size, (s[8]'h).toNat = 45 := by intro h; rw [getElem?_pos s 8 h] at g8; rw [Option.some.inj g8]; exact n8
  clear d8 e8 n8 g8
  obtain ⟨c13, g13, e13⟩ := str_get hs 13 (by rw [HP.out]; decide)
  rw [d13] at e13
  have n13 : c13.toNat = 45 := e13.symm
  have k13 : ∀ h : 13 < s.size, (s[13]'h).toNat = 45 := by intro h; rw [getElem?_pos s 13 h] at g13; rw [Option.some.inj g13]; exact n13
  clear d13 e13 n13 g13
  obtain ⟨c18, g18, e18⟩ := str_get hs 18 (by rw [HP.out]; decide)
  rw [d18] at e18
  have n18 : c18.toNat = 45 := e18.symm
  have k18 : ∀ h : 18 < s.size, (s[18]'h).toNat = 45 := by intro h; rw [getElem?_pos s 18 h] at g18; rw [Option.some.inj g18]; exact n18
  clear d18 e18 n18 g18
  obtain ⟨c23, g23, e23⟩ := str_get hs 23 (by rw [HP.out]; decide)
  rw [d23] at e23
  have n23 : c23.toNat = 45 := e23.symm
  have k23 : ∀ h : 23 < s.size, (s[23]'h).toNat = 45 := by intro h; rw [getElem?_pos s 23 h] at g23; rw [Option.some.inj g23]; exact n23
  clear d23 e23 n23 g23
  have HS := Lib.hid hs
  clear hs
  go_enter Tryd.func14, Tryd.ntmps14
  go_wp2_with (refine wp_alloc_blk uuArr hb rfl rfl rfl (Nat.le_refl _) ?_)
  intro w1 b1 g1 s1 hb1
  clear s1
  go_wp2_with (refine wp_alloc_blk uuArr hb1 rfl rfl rfl hb1.size ?_)
  intro w2 b2 g2 s2 hb2
  clear s2
  have b1' := b1.grown g2 (by simp)
  have hlt1 := b1.lt
  have hle1 := hb1.size
  clear b1 g1 g2 hb1
  go_wp2_with (go_at_call 18; refine (eqfold_same urnB _ (by decide) urn_small).mono ?_)
  rintro e w3 ⟨rfl, rfl⟩
  go_wp2_with (refine wp_val (v := .agg posArr) rfl (still_build (S := fun _ => True) rfl rfl (fun w => by kernel_rfl) _ trivial) ?_)
  obtain ⟨gb, hgb⟩ : ∃ gb, w1.heap.size = gb := ⟨_, rfl⟩
  rw [hgb] at b2 hlt1 ⊢
  have HGB := Lib.hid hgb
  clear hgb
  have HGA : Hid (∀ v, Below w.heap.size w v → w.heap.size ≤ v.heap.size) := Lib.hid (fun v h => h.size)
  obtain ⟨ga, hga⟩ : ∃ ga, w.heap.size = ga := ⟨_, rfl⟩
  rw [hga] at hlt1 b1' hb2 HGA ⊢
  have HGW := Lib.hid hga
  clear hga hle1 hb
  go_wp2
  go_loopw [81] (fun i wr => ∃ k : Nat, k ≤ 16 ∧ i = .int .i64 k ∧ (∀ j, j < k → pairOk p (posU j) = true) ∧ Blk wr gb (part (stdB p) k) 35 ∧ Blk wr ga Z16 35 ∧ Below ga w wr) (fun i _ => 16 - (intOf i).toNat)
  case atStart => exact ⟨0, Nat.zero_le _, rfl, fun j hj => absurd hj (Nat.not_lt_zero _), b2, b1', hb2⟩
  case round =>
    obtain ⟨k, hk, rfl, hall, hB, hA, hw⟩ := hrel
    have HALL := Lib.hid hall
    clear hall
    by_cases hlt : k < 16
    · obtain ⟨q, hq⟩ : ∃ q, posU k = q := ⟨_, rfl⟩
      have hq35 : q + 1 < 36 := by rw [← hq]; exact posU_lt k hlt
      have HQ := Lib.hid hq
      have hpos := run_pos k hlt
      rw [hq] at hpos
      have HPOS := Lib.hid hpos
      clear hq hpos
      go_wp2_with (refine wp_val (v := .int .i64 (q : Int)) rfl (exec_index rfl rfl rfl (HPOS.out _)) ?_)
      refine region_plan2 (fun w' => Below wr.heap.size wr w') [(0, 0), (1, 0), (2, 0), (3, 0), (4, 0), (5, 0), (6, 0), (7, 1), (8, 0), (9, 0), (10, 0), (11, 0), (12, 0)] rfl (by kernel_rfl) (by kernel_rfl) rfl (by intro c a d v w h; cases d <;> exact h) (fun _ _ h => h) ?_
      intro OPS w3 hpW hb3
      clear hpW
      simp only [planOps2, strip, List.filterMap_cons, List.filterMap_nil, List.getElem?_cons_succ, List.getElem?_cons_zero, Option.map_some]
      have hT3 : XTab wr := XTab.kept hT (by rw [HGW.out]; exact hw)
      have hT4 := hT3.keptB hb3 (XTab.lt hT3)
      obtain ⟨xv, hxv⟩ : ∃ xv, xtN (B p q) (B p (q + 1)) = xv := ⟨_, rfl⟩
      obtain ⟨ok, hok⟩ : ∃ ok, (okH (B p q) && okH (B p (q + 1))) = ok := ⟨_, rfl⟩
      have hx := xtob_ok (B p q) (B p (q + 1)) (B_lt _ _) (B_lt _ _) w3 hT4
      rw [hxv, hok] at hx
      have HX := Lib.hid hx
      have HXV := Lib.hid hxv
      have HOK := Lib.hid hok
      have hB3 := hB.kept hb3
      have hA3 := hA.kept hb3
      have hw3 := hw.trans (hb3.mono (HGA.out _ hw))
      clear hx hxv hok hB hA hw hT3 hT4
      refine plan_move rfl rfl ?_
      simp only [Act.put, List.setIfInBounds_toArray, List.set_cons_zero, List.set_cons_succ]
      refine plan_move rfl rfl ?_
      simp only [Act.put, List.setIfInBounds_toArray, List.set_cons_zero, List.set_cons_succ]
      refine plan_still rfl (still_s_at rfl Tryd.underlying9 HS.out rfl q rfl (by rw [HP.out]; omega)) ?_
      simp only [Act.put, List.setIfInBounds_toArray, List.set_cons_zero, List.set_cons_succ]
      refine plan_move rfl rfl ?_
      simp only [Act.put, List.setIfInBounds_toArray, List.set_cons_zero, List.set_cons_succ]
      refine plan_move rfl rfl ?_
      simp only [Act.put, List.setIfInBounds_toArray, List.set_cons_zero, List.set_cons_succ]
      refine plan_still (v := .int .i64 ((q : Int) + 1)) rfl (fun w' hS => by have := wrap_q hq35; go_simp; first | done | exact this) ?_
      simp only [Act.put, List.setIfInBounds_toArray, List.set_cons_zero, List.set_cons_succ]
      refine plan_still rfl (still_s_at rfl Tryd.underlying9 HS.out rfl (q + 1) rfl (by rw [HP.out]; omega)) ?_
      simp only [Act.put, List.setIfInBounds_toArray, List.set_cons_zero, List.set_cons_succ]
      refine plan_do ?_
      go_wp2_with (go_at_call 20; refine HX.out.mono ?_)
      rintro e w4 ⟨rfl, rfl⟩
      go_wp2
      refine ⟨hb3, ?_⟩
      repeat (first | (refine plan_skip rfl ?_) | (refine plan_still (v := ?_) rfl (fun w' hS => ?_) ?_; rotate_left; (focus (go_simp; first | done | with_reducible rfl))); simp only [Act.put, List.setIfInBounds_toArray, List.set_cons_zero, List.set_cons_succ])
      refine plan_nil ?_
      cases ok with
      | false =>
        have hno : stdOk p = false := stdOk_not k hlt (by rw [HQ.out]; exact HOK.out)
        go_wp2
        refine region_plan2 (fun w' => Blk w' gb (part (stdB p) k) 35) [(0, 0), (1, 1), (2, 1), (3, 0)] rfl (by kernel_rfl) (by kernel_rfl) rfl (by intro c a d v w h; cases d <;> exact h) (fun w' h _ => by unfold Blk; rw [h]; exact hB3) ?_
        intro OPS w5 hpW hb5
        clear hpW
        simp only [planOps2, strip, List.filterMap_cons, List.filterMap_nil, List.getElem?_cons_succ, List.getElem?_cons_zero, Option.map_some]
        have hB5 := hB3.kept hb5
        have hA5 := hA3.kept hb5
        have hw5 := hw3.trans (hb5.mono (HGA.out _ hw3))
        have hL5 := Lib.hid (part_length (stdB p) k (stdB_length p) hk)
        refine plan_still rfl (still_blk uuArr rfl rfl (fun w' hS => hS) hL5.out) ?_
        simp only [Act.put, List.setIfInBounds_toArray, List.set_cons_zero, List.set_cons_succ]
        refine plan_do ?_
        go_wp2_with (go_at_call 19; refine (errNew_ok _ _).mono ?_)
        rintro e w6 ⟨rfl, hb6⟩
        have hA6 := hA5.kept hb6
        have hB6 := hB5.kept hb6
        have hw6 := hw5.trans (hb6.mono (HGA.out _ hw5))
        go_wp2
        refine ⟨hB6, ?_⟩
        refine plan_do ?_
        go_wp2_with (refine wp_store_blk uuArr hw6 rfl rfl rfl rfl hA6 (Nat.le_refl _) rfl hL5.out (part_one _ _) ?_)
        intro w7 hA7 g7 s7 hw7
        clear s7
        go_wp2
        refine ⟨hB6.grown g7 (by intro e; have := Option.some.inj e; omega), ?_⟩
        repeat (first | (refine plan_skip rfl ?_) | (refine plan_still (v := ?_) rfl (fun w' hS => ?_) ?_; rotate_left; (focus (go_simp; first | done | with_reducible rfl))); simp only [Act.put, List.setIfInBounds_toArray, List.set_cons_zero, List.set_cons_succ])
        refine plan_nil ?_
        go_wp2
        refine ret_cell_tmp uuArr rfl rfl rfl rfl hA7 hL5.out ⟨⟨fun h => (by rw [hno] at h; cases h), fun _ => ⟨_, _, _, ⟨hL5.out, part_one _ _⟩, rfl⟩⟩, by rw [HGW.out]; exact hw7⟩
      | true =>
        have hpk : pairOk p (posU k) = true := by rw [HQ.out]; exact HOK.out
        have hval := B_stdB p k hlt hpk
        rw [HQ.out, HXV.out] at hval
        have hset := part_set (stdB p) k (stdB_length p) hlt
        rw [hval] at hset
        have HSET := Lib.hid hset
        have hL := Lib.hid (part_length (stdB p) k (stdB_length p) hk)
        have hall' : Hid (∀ j, j < k + 1 → pairOk p (posU j) = true) := fun j hj => by
          by_cases e : j = k
          · rw [e]; exact hpk
          · exact HALL.out j (by omega)
        clear hval hset
        go_wp2_with (refine wp_store_cell (i := k) rfl rfl (by kernel_rfl) rfl rfl rfl hB3 (by rw [hL.out]; omega) ?_)
        intro w5 hB5 g5 s5
        clear s5
        rw [HSET.out] at hB5
        have hA5 := hA3.grown g5 (by intro e; have := Option.some.inj e; omega)
        have hw5 := hw3.grown g5 (HGA.out _ hw3) (by rintro j ⟨⟩; omega)
        go_wp2
        go_roundw
        case rel => exact ⟨k + 1, by omega, by go_num, hall'.out, hB5, hA5, hw5⟩
        case measure => simp [intOf]; omega
    · obtain rfl : k = 16 := by omega
      rw [part_end _ (stdB_length p)] at hB
      have hL := Lib.hid (show (bvs (stdB p)).length = 16 by rw [bvs_length, stdB_length])
      have hstd : stdOk p = true := stdOk_all hd HALL.out
      go_wp2_with (first | (refine wp_load_blk uuArr rfl rfl rfl hB hL.out ?_) | (refine wp_store_blk uuArr hw rfl rfl rfl rfl hA (Nat.le_refl _) rfl hL.out (bvs_one _) ?_))
      intro w5 hA5 g5 s5 hw5
      clear s5
      go_wp2
      refine ret_cell_tmp uuArr rfl rfl rfl rfl hA5 hL.out ⟨⟨fun _ => rfl, fun h => (by rw [hstd] at h; cases h)⟩, by rw [HGW.out]; exact hw5⟩
set_option maxRecDepth 100000 in
theorem parse38_dash (p : List UInt8) (hp : p.length = 37) (c : UInt8) (w : World) (hT : XTab w) (hd : dashOk p = true) :
    Calls Tryd.prog 14 #[str (c :: p)] w fun e w' => Answer p e ∧ Below w.heap.size w w' := by
  have hb := Below.refl w.heap.size w
  have HP := Lib.hid hp
  obtain ⟨s, hs⟩ : ∃ s : ByteArray, s = ⟨p.toArray⟩ := ⟨_, rfl⟩
  have hsz : s.size = 37 := by rw [hs]; show p.toArray.size = 37; simpa using hp
  obtain ⟨r, hr⟩ : ∃ r : ByteArray, r = ⟨(c :: p).toArray⟩ := ⟨_, rfl⟩
  have hrz : r.size = 38 := by rw [hr]; show (c :: p).toArray.size = 38; simp [hp]
  have hr2 : r.extract 1 38 = s := by rw [hr, bytes_part, hs]; congr 2; show (p.drop 0).take 37 = p; rw [List.drop_zero, List.take_of_length_le (by omega)]
  unfold str
  rw [← hr]
  clear hp hr
  obtain ⟨d8, d13, d18, d23⟩ := dash_parts hd
  obtain ⟨c8, g8, e8⟩ := str_get hs 8 (by rw [HP.out]; decide)
  rw [d8] at e8
  have n8 : c8.toNat = 45 := e8.symm
  have k8 : ∀ h : 8 < s.size, (s[8]'h).toNat = 45 := by intro h; rw [getElem?_pos s 8 h] at g8; rw [Option.some.inj g8]; exact n8
  clear d8 e8 n8 g8
  obtain ⟨c13, g13, e13⟩ := str_get hs 13 (by rw [HP.out]; decide)
  rw [d13] at e13
  have n13 : c13.toNat = 45 := e13.symm
  have k13 : ∀ h : 13 < s.size, (s[13]'h).toNat = 45 := by intro h; rw [getElem?_pos s 13 h] at g13; rw [Option.some.inj g13]; exact n13
  clear d13 e13 n13 g13
  obtain ⟨c18, g18, e18⟩ := str_get hs 18 (by rw [HP.out]; decide)
  rw [d18] at e18
  have n18 : c18.toNat = 45 := e18.symm
  have k18 : ∀ h : 18 < s.size, (s[18]'h).toNat = 45 := by intro h; rw [getElem?_pos s 18 h] at g18; rw [Option.some.inj g18]; exact n18
  clear d18 e18 n18 g18
  obtain ⟨c23, g23, e23⟩ := str_get hs 23 (by rw [HP.out]; decide)
  rw [d23] at e23
  have n23 : c23.toNat = 45 := e23.symm
  have k23 : ∀ h : 23 < s.size, (s[23]'h).toNat = 45 := by intro h; rw [getElem?_pos s 23 h] at g23; rw [Option.some.inj g23]; exact n23
  clear d23 e23 n23 g23
  have HS := Lib.hid hs
  clear hs
  go_enter Tryd.func14, Tryd.ntmps14
  go_wp2_with (refine wp_alloc_blk uuArr hb rfl rfl rfl (Nat.le_refl _) ?_)
  intro w1 b1 g1 s1 hb1
  clear s1
  go_wp2_with (refine wp_alloc_blk uuArr hb1 rfl rfl rfl hb1.size ?_)
  intro w2 b2 g2 s2 hb2
  clear s2
  have b1' := b1.grown g2 (by simp)
  have hlt1 := b1.lt
  have hle1 := hb1.size
  clear b1 g1 g2 hb1
  go_wp2_with (refine wp_val (v := .agg posArr) rfl (still_build (S := fun _ => True) rfl rfl (fun w => by kernel_rfl) _ trivial) ?_)
  obtain ⟨gb, hgb⟩ : ∃ gb, w1.heap.size = gb := ⟨_, rfl⟩
  rw [hgb] at b2 hlt1 ⊢
  have HGB := Lib.hid hgb
  clear hgb
  have HGA : Hid (∀ v, Below w.heap.size w v → w.heap.size ≤ v.heap.size) := Lib.hid (fun v h => h.size)
  obtain ⟨ga, hga⟩ : ∃ ga, w.heap.size = ga := ⟨_, rfl⟩
  rw [hga] at hlt1 b1' hb2 HGA ⊢
  have HGW := Lib.hid hga
  clear hga hle1 hb
  go_wp2
  go_loopw [81] (fun i wr => ∃ k : Nat, k ≤ 16 ∧ i = .int .i64 k ∧ (∀ j, j < k → pairOk p (posU j) = true) ∧ Blk wr gb (part (stdB p) k) 35 ∧ Blk wr ga Z16 35 ∧ Below ga w wr) (fun i _ => 16 - (intOf i).toNat)
  case atStart => exact ⟨0, Nat.zero_le _, rfl, fun j hj => absurd hj (Nat.not_lt_zero _), b2, b1', hb2⟩
  case round =>
    obtain ⟨k, hk, rfl, hall, hB, hA, hw⟩ := hrel
    have HALL := Lib.hid hall
    clear hall
    by_cases hlt : k < 16
    · obtain ⟨q, hq⟩ : ∃ q, posU k = q := ⟨_, rfl⟩
      have hq35 : q + 1 < 36 := by rw [← hq]; exact posU_lt k hlt
      have HQ := Lib.hid hq
      have hpos := run_pos k hlt
      rw [hq] at hpos
      have HPOS := Lib.hid hpos
      clear hq hpos
      go_wp2_with (refine wp_val (v := .int .i64 (q : Int)) rfl (exec_index rfl rfl rfl (HPOS.out _)) ?_)
      refine region_plan2 (fun w' => Below wr.heap.size wr w') [(0, 0), (1, 0), (2, 0), (3, 0), (4, 0), (5, 0), (6, 0), (7, 1), (8, 0), (9, 0), (10, 0), (11, 0), (12, 0)] rfl (by kernel_rfl) (by kernel_rfl) rfl (by intro c a d v w h; cases d <;> exact h) (fun _ _ h => h) ?_
      intro OPS w3 hpW hb3
      clear hpW
      simp only [planOps2, strip, List.filterMap_cons, List.filterMap_nil, List.getElem?_cons_succ, List.getElem?_cons_zero, Option.map_some]
      have hT3 : XTab wr := XTab.kept hT (by rw [HGW.out]; exact hw)
      have hT4 := hT3.keptB hb3 (XTab.lt hT3)
      obtain ⟨xv, hxv⟩ : ∃ xv, xtN (B p q) (B p (q + 1)) = xv := ⟨_, rfl⟩
      obtain ⟨ok, hok⟩ : ∃ ok, (okH (B p q) && okH (B p (q + 1))) = ok := ⟨_, rfl⟩
      have hx := xtob_ok (B p q) (B p (q + 1)) (B_lt _ _) (B_lt _ _) w3 hT4
      rw [hxv, hok] at hx
      have HX := Lib.hid hx
      have HXV := Lib.hid hxv
      have HOK := Lib.hid hok
      have hB3 := hB.kept hb3
      have hA3 := hA.kept hb3
      have hw3 := hw.trans (hb3.mono (HGA.out _ hw))
      clear hx hxv hok hB hA hw hT3 hT4
      refine plan_move rfl rfl ?_
      simp only [Act.put, List.setIfInBounds_toArray, List.set_cons_zero, List.set_cons_succ]
      refine plan_move rfl rfl ?_
      simp only [Act.put, List.setIfInBounds_toArray, List.set_cons_zero, List.set_cons_succ]
      refine plan_still rfl (still_s_at rfl Tryd.underlying9 HS.out rfl q rfl (by rw [HP.out]; omega)) ?_
      simp only [Act.put, List.setIfInBounds_toArray, List.set_cons_zero, List.set_cons_succ]
      refine plan_move rfl rfl ?_
      simp only [Act.put, List.setIfInBounds_toArray, List.set_cons_zero, List.set_cons_succ]
      refine plan_move rfl rfl ?_
      simp only [Act.put, List.setIfInBounds_toArray, List.set_cons_zero, List.set_cons_succ]
      refine plan_still (v := .int .i64 ((q : Int) + 1)) rfl (fun w' hS => by have := wrap_q hq35; go_simp; first | done | exact this) ?_
      simp only [Act.put, List.setIfInBounds_toArray, List.set_cons_zero, List.set_cons_succ]
      refine plan_still rfl (still_s_at rfl Tryd.underlying9 HS.out rfl (q + 1) rfl (by rw [HP.out]; omega)) ?_
      simp only [Act.put, List.setIfInBounds_toArray, List.set_cons_zero, List.set_cons_succ]
      refine plan_do ?_
      go_wp2_with (go_at_call 20; refine HX.out.mono ?_)
      rintro e w4 ⟨rfl, rfl⟩
      go_wp2
      refine ⟨hb3, ?_⟩
      repeat (first | (refine plan_skip rfl ?_) | (refine plan_still (v := ?_) rfl (fun w' hS => ?_) ?_; rotate_left; (focus (go_simp; first | done | with_reducible rfl))); simp only [Act.put, List.setIfInBounds_toArray, List.set_cons_zero, List.set_cons_succ])
      refine plan_nil ?_
      cases ok with
      | false =>
        have hno : stdOk p = false := stdOk_not k hlt (by rw [HQ.out]; exact HOK.out)
        go_wp2
        refine region_plan2 (fun w' => Blk w' gb (part (stdB p) k) 35) [(0, 0), (1, 1), (2, 1), (3, 0)] rfl (by kernel_rfl) (by kernel_rfl) rfl (by intro c a d v w h; cases d <;> exact h) (fun w' h _ => by unfold Blk; rw [h]; exact hB3) ?_
        intro OPS w5 hpW hb5
        clear hpW
        simp only [planOps2, strip, List.filterMap_cons, List.filterMap_nil, List.getElem?_cons_succ, List.getElem?_cons_zero, Option.map_some]
        have hB5 := hB3.kept hb5
        have hA5 := hA3.kept hb5
        have hw5 := hw3.trans (hb5.mono (HGA.out _ hw3))
        have hL5 := Lib.hid (part_length (stdB p) k (stdB_length p) hk)
        refine plan_still rfl (still_blk uuArr rfl rfl (fun w' hS => hS) hL5.out) ?_
        simp only [Act.put, List.setIfInBounds_toArray, List.set_cons_zero, List.set_cons_succ]
        refine plan_do ?_
        go_wp2_with (go_at_call 19; refine (errNew_ok _ _).mono ?_)
        rintro e w6 ⟨rfl, hb6⟩
        have hA6 := hA5.kept hb6
        have hB6 := hB5.kept hb6
        have hw6 := hw5.trans (hb6.mono (HGA.out _ hw5))
        go_wp2
        refine ⟨hB6, ?_⟩
        refine plan_do ?_
        go_wp2_with (refine wp_store_blk uuArr hw6 rfl rfl rfl rfl hA6 (Nat.le_refl _) rfl hL5.out (part_one _ _) ?_)
        intro w7 hA7 g7 s7 hw7
        clear s7
        go_wp2
        refine ⟨hB6.grown g7 (by intro e; have := Option.some.inj e; omega), ?_⟩
        repeat (first | (refine plan_skip rfl ?_) | (refine plan_still (v := ?_) rfl (fun w' hS => ?_) ?_; rotate_left; (focus (go_simp; first | done | with_reducible rfl))); simp only [Act.put, List.setIfInBounds_toArray, List.set_cons_zero, List.set_cons_succ])
        refine plan_nil ?_
        go_wp2
        refine ret_cell_tmp uuArr rfl rfl rfl rfl hA7 hL5.out ⟨⟨fun h => (by rw [hno] at h; cases h), fun _ => ⟨_, _, _, ⟨hL5.out, part_one _ _⟩, rfl⟩⟩, by rw [HGW.out]; exact hw7⟩
      | true =>
        have hpk : pairOk p (posU k) = true := by rw [HQ.out]; exact HOK.out
        have hval := B_stdB p k hlt hpk
        rw [HQ.out, HXV.out] at hval
        have hset := part_set (stdB p) k (stdB_length p) hlt
        rw [hval] at hset
        have HSET := Lib.hid hset
        have hL := Lib.hid (part_length (stdB p) k (stdB_length p) hk)
        have hall' : Hid (∀ j, j < k + 1 → pairOk p (posU j) = true) := fun j hj => by
          by_cases e : j = k
          · rw [e]; exact hpk
          · exact HALL.out j (by omega)
        clear hval hset
        go_wp2_with (refine wp_store_cell (i := k) rfl rfl (by kernel_rfl) rfl rfl rfl hB3 (by rw [hL.out]; omega) ?_)
        intro w5 hB5 g5 s5
        clear s5
        rw [HSET.out] at hB5
        have hA5 := hA3.grown g5 (by intro e; have := Option.some.inj e; omega)
        have hw5 := hw3.grown g5 (HGA.out _ hw3) (by rintro j ⟨⟩; omega)
        go_wp2
        go_roundw
        case rel => exact ⟨k + 1, by omega, by go_num, hall'.out, hB5, hA5, hw5⟩
        case measure => simp [intOf]; omega
    · obtain rfl : k = 16 := by omega
      rw [part_end _ (stdB_length p)] at hB
      have hL := Lib.hid (show (bvs (stdB p)).length = 16 by rw [bvs_length, stdB_length])
      have hstd : stdOk p = true := stdOk_all hd HALL.out
      go_wp2_with (first | (refine wp_load_blk uuArr rfl rfl rfl hB hL.out ?_) | (refine wp_store_blk uuArr hw rfl rfl rfl rfl hA (Nat.le_refl _) rfl hL.out (bvs_one _) ?_))
      intro w5 hA5 g5 s5 hw5
      clear s5
      go_wp2
      refine ret_cell_tmp uuArr rfl rfl rfl rfl hA5 hL.out ⟨⟨fun _ => rfl, fun h => (by rw [hstd] at h; cases h)⟩, by rw [HGW.out]; exact hw5⟩
theorem rawB_length (p : List UInt8) : (rawB p).length = 16 := by simp [rawB]
theorem B_rawB (p : List UInt8) (k : Nat) (hk : k < 16) (h : pairOk p (2 * k) = true) : ((B (rawB p) k : Nat) : Int) = xtN (B p (2 * k)) (B p (2 * k + 1)) := by
  unfold pairOk at h
  rw [Bool.and_eq_true] at h
  rw [xtN_ok _ _ h.1 h.2]
  have e : B (rawB p) k = (pairV p (2 * k)).toNat := by simp [B, rawB, hk]
  rw [e]
  unfold pairV
  have h1 := hexV_or _ (by simpa [okH] using h.1)
  have h2 := hexV_or _ (by simpa [okH] using h.2)
  simp
  omega
theorem rawOk_at {p : List UInt8} (h : rawOk p = true) (k : Nat) (hk : k < 16) : pairOk p (2 * k) = true := by
  unfold rawOk at h
  exact List.all_eq_true.1 h k (List.mem_range.2 hk)
theorem wrap_2k {k q : Nat} (h : 2 * k = q) (hk : k < 16) : IntKind.i64.wrap ((k : Int) * 2) = (q : Int) ∧ IntKind.i64.wrap ((q : Int) + 1) = ((q + 1 : Nat) : Int) := by
  rw [IntKind.wrap_i64, IntKind.wrap_i64]; omega
set_option maxRecDepth 100000 in
theorem parse32 (p : List UInt8) (hp : p.length = 32) (w : World) (hT : XTab w) (hraw : rawOk p = true) :
    Calls Tryd.prog 14 #[str p] w fun e w' => e = .returned (.tuple #[.agg (bvs (rawB p)).toArray, .nilIface]) ∧ Below w.heap.size w w' := by
  have hb := Below.refl w.heap.size w
  have HP := Lib.hid hp
  have HRAW := Lib.hid hraw
  obtain ⟨s, hs⟩ : ∃ s : ByteArray, s = ⟨p.toArray⟩ := ⟨_, rfl⟩
  have hsz : s.size = 32 := by rw [hs]; show p.toArray.size = 32; simpa using hp
  unfold str
  rw [← hs]
  have HS := Lib.hid hs
  clear hp hs hraw
  go_enter Tryd.func14, Tryd.ntmps14
  go_wp2_with (refine wp_alloc_blk uuArr hb rfl rfl rfl (Nat.le_refl _) ?_)
  intro w1 b1 g1 s1 hb1
  clear s1
  go_wp2_with (refine wp_alloc_blk uuArr hb1 rfl rfl rfl hb1.size ?_)
  intro w2 b2 g2 s2 hb2
  clear s2
  have b1' := b1.grown g2 (by simp)
  have hlt1 := b1.lt
  have hle1 := hb1.size
  clear b1 g1 g2 hb1
  obtain ⟨gb, hgb⟩ : ∃ gb, w1.heap.size = gb := ⟨_, rfl⟩
  rw [hgb] at b2 hlt1 ⊢
  have HGB := Lib.hid hgb
  clear hgb
  have HGA : Hid (∀ v, Below w.heap.size w v → w.heap.size ≤ v.heap.size) := Lib.hid (fun v h => h.size)
  obtain ⟨ga, hga⟩ : ∃ ga, w.heap.size = ga := ⟨_, rfl⟩
  rw [hga] at hlt1 b1' hb2 HGA ⊢
  have HGW := Lib.hid hga
  clear hga hle1 hb
  go_wp2
  go_loopw [36] (fun i wr => ∃ k : Nat, k ≤ 16 ∧ i = .int .i64 k ∧ Blk wr gb (part (rawB p) k) 35 ∧ Blk wr ga Z16 35 ∧ Below ga w wr) (fun i _ => 16 - (intOf i).toNat)
  case atStart => exact ⟨0, Nat.zero_le _, rfl, b2, b1', hb2⟩
  case round =>
    obtain ⟨k, hk, rfl, hB, hA, hw⟩ := hrel
    by_cases hlt : k < 16
    · have hpk := rawOk_at HRAW.out k hlt
      have hval := B_rawB p k hlt hpk
      have hset := part_set (rawB p) k (rawB_length p) hlt
      have hL := Lib.hid (part_length (rawB p) k (rawB_length p) hk)
      obtain ⟨q, hq⟩ : ∃ q, 2 * k = q := ⟨_, rfl⟩
      have hwr := wrap_2k hq hlt
      have hq35 : q + 1 < 32 := by omega
      rw [hq] at hpk hval
      have HW := Lib.hid hwr
      clear hwr hq
      go_wp2
      refine region_plan2 (fun w' => True) [(0, 0), (1, 0), (2, 0), (3, 0), (4, 0), (5, 0), (6, 0), (7, 0), (8, 0), (9, 0), (10, 1), (11, 0), (12, 0), (13, 0), (14, 0), (15, 1), (16, 0)] rfl (by kernel_rfl) (by kernel_rfl) rfl (by intro c a d v w h; cases d <;> exact h) (fun w' h _ => trivial) ?_
      intro OPS w3 hpW hb3
      clear hpW
      simp only [planOps2, strip, List.filterMap_cons, List.filterMap_nil, List.getElem?_cons_succ, List.getElem?_cons_zero, Option.map_some]
      have hT3 : XTab wr := XTab.kept hT (by rw [HGW.out]; exact hw)
      have hT4 := hT3.keptB hb3 (XTab.lt hT3)
      obtain ⟨xv, hxv⟩ : ∃ xv, xtN (B p q) (B p (q + 1)) = xv := ⟨_, rfl⟩
      have hx := xtob_ok (B p q) (B p (q + 1)) (B_lt _ _) (B_lt _ _) w3 hT4
      rw [hxv, show (okH (B p q) && okH (B p (q + 1))) = true from hpk] at hx
      rw [hxv] at hval
      rw [hval] at hset
      have HX := Lib.hid hx
      have HSET := Lib.hid hset
      have hB3 := hB.kept hb3
      have hA3 := hA.kept hb3
      have hw3 := hw.trans (hb3.mono (HGA.out _ hw))
      clear hx hxv hB hA hw hT3 hT4 hval hset hpk
      refine plan_move rfl rfl ?_
      simp only [Act.put, List.setIfInBounds_toArray, List.set_cons_zero, List.set_cons_succ]
      refine plan_move rfl rfl ?_
      simp only [Act.put, List.setIfInBounds_toArray, List.set_cons_zero, List.set_cons_succ]
      refine plan_move rfl rfl ?_
      simp only [Act.put, List.setIfInBounds_toArray, List.set_cons_zero, List.set_cons_succ]
      refine plan_still (v := .int .i64 (q : Int)) rfl (fun w' hS => by have := HW.out.1; go_simp; first | done | exact this) ?_
      simp only [Act.put, List.setIfInBounds_toArray, List.set_cons_zero, List.set_cons_succ]
      refine plan_still rfl (still_s_at rfl Tryd.underlying9 HS.out rfl q rfl (by rw [HP.out]; omega)) ?_
      simp only [Act.put, List.setIfInBounds_toArray, List.set_cons_zero, List.set_cons_succ]
      refine plan_move rfl rfl ?_
      simp only [Act.put, List.setIfInBounds_toArray, List.set_cons_zero, List.set_cons_succ]
      refine plan_move rfl rfl ?_
      simp only [Act.put, List.setIfInBounds_toArray, List.set_cons_zero, List.set_cons_succ]
      refine plan_still (v := .int .i64 (q : Int)) rfl (fun w' hS => by have := HW.out.1; go_simp; first | done | exact this) ?_
      simp only [Act.put, List.setIfInBounds_toArray, List.set_cons_zero, List.set_cons_succ]
      refine plan_still (v := .int .i64 ((q + 1 : Nat) : Int)) rfl (fun w' hS => by have := HW.out.2; go_simp; first | done | exact this) ?_
      simp only [Act.put, List.setIfInBounds_toArray, List.set_cons_zero, List.set_cons_succ]
      refine plan_still rfl (still_s_at rfl Tryd.underlying9 HS.out rfl (q + 1) rfl (by rw [HP.out]; omega)) ?_
      simp only [Act.put, List.setIfInBounds_toArray, List.set_cons_zero, List.set_cons_succ]
      refine plan_do ?_
      go_wp2_with (go_at_call 20; refine HX.out.mono ?_)
      rintro e w4 ⟨rfl, rfl⟩
      go_wp2
      first | refine ⟨trivial, ?_⟩ | skip
      repeat (first | (refine plan_skip rfl ?_) | (refine plan_still (v := ?_) rfl (fun w' hS => ?_) ?_; rotate_left; (focus (go_simp; first | done | with_reducible rfl))); simp only [Act.put, List.setIfInBounds_toArray, List.set_cons_zero, List.set_cons_succ])
      refine plan_do ?_
      go_wp2_with (refine wp_store_cell (i := k) rfl rfl (by kernel_rfl) rfl rfl rfl hB3 (by rw [hL.out]; omega) ?_)
      intro w5 hB5 g5 s5
      clear s5
      rw [HSET.out] at hB5
      have hA5 := hA3.grown g5 (by intro e; have := Option.some.inj e; omega)
      have hw5 := hw3.grown g5 (HGA.out _ hw3) (by rintro j ⟨⟩; omega)
      go_wp2
      first | refine ⟨trivial, ?_⟩ | skip
      repeat (first | (refine plan_skip rfl ?_) | (refine plan_still (v := ?_) rfl (fun w' hS => ?_) ?_; rotate_left; (focus (go_simp; first | done | with_reducible rfl))); simp only [Act.put, List.setIfInBounds_toArray, List.set_cons_zero, List.set_cons_succ])
      refine plan_nil ?_
      go_wp2
      go_roundw
      case rel => exact ⟨k + 1, by omega, by go_num, hB5, hA5, hw5⟩
      case measure => simp [intOf]; omega
    · obtain rfl : k = 16 := by omega
      rw [part_end _ (rawB_length p)] at hB
      have hL := Lib.hid (show (bvs (rawB p)).length = 16 by rw [bvs_length, rawB_length])
      go_wp2_with (first | (refine wp_load_blk uuArr rfl rfl rfl hB hL.out ?_) | (refine wp_store_blk uuArr hw rfl rfl rfl rfl hA (Nat.le_refl _) rfl hL.out (bvs_one _) ?_))
      intro w5 hA5 g5 s5 hw5
      clear s5
      go_wp2
      refine ret_cell_tmp uuArr rfl rfl rfl rfl hA5 hL.out ⟨rfl, by rw [HGW.out]; exact hw5⟩
set_option maxRecDepth 100000 in
theorem parse_len (s : ByteArray) (w : World) (hs : s.size ≤ 2147483647) (h36 : s.size ≠ 36) (h45 : s.size ≠ 45) (h38 : s.size ≠ 38) (h32 : s.size ≠ 32) :
    Calls Tryd.prog 14 #[.string s] w fun e w' => (∃ cs u x, Sixteen cs ∧ e = .returned (.tuple #[.agg cs.toArray, .iface u x])) ∧ Below w.heap.size w w' := by
  have hb := Below.refl w.heap.size w
  have n36 : ((s.size : Int) == 36) = false := by rw [beq_eq_false_iff_ne]; omega
  have n45 : ((s.size : Int) == 45) = false := by rw [beq_eq_false_iff_ne]; omega
  have n38 : ((s.size : Int) == 38) = false := by rw [beq_eq_false_iff_ne]; omega
  have n32 : ((s.size : Int) == 32) = false := by rw [beq_eq_false_iff_ne]; omega
  clear h36 h45 h38 h32
  go_enter Tryd.func14, Tryd.ntmps14
  go_wp2_with (refine wp_alloc_blk uuArr hb rfl rfl rfl (Nat.le_refl _) ?_)
  intro w1 b1 g1 s1 hb1
  clear s1
  go_wp2_with (refine wp_alloc_blk uuArr hb1 rfl rfl rfl hb1.size ?_)
  intro w2 b2 g2 s2 hb2
  clear s2
  have b1' := b1.grown g2 (by simp)
  have hlt1 := b1.lt
  have hle1 := hb1.size
  clear b1 g1 g2 hb1
  go_wp2_with (first | (refine wp_load_blk uuArr rfl rfl rfl b2 rfl ?_) | (refine wp_store_blk uuArr hb2 rfl rfl rfl (cs := Z16) rfl b1' (Nat.le_refl _) rfl rfl (by decide) ?_))
  intro w5 hA5 g5 s5 hw5
  clear s5
  go_wp2
  refine ret_cell_tmp uuArr rfl rfl rfl rfl hA5 rfl ⟨⟨Z16, _, _, ⟨rfl, by decide⟩, rfl⟩, hw5⟩

end Go.Proofs.YtdjppileeeljnaaDoor
