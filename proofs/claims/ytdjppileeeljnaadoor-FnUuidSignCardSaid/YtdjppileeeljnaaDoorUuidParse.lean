/- Contracts of uuid.Parse. -/
import Derived.Test.YtdjppileeeljnaaDoorXtobFn
import Derived.Test.YtdjppileeeljnaaDoorUuidForm
namespace Go.Proofs.YtdjppileeeljnaaDoor
open Go.RowKit
set_option linter.unusedVariables false
set_option linter.unusedSimpArgs false

theorem wrap_q {q : Nat} (h : q + 1 < 36) : IntKind.i64.wrap ((q : Int) + 1) = (q : Int) + 1 := by rw [IntKind.wrap_i64]; omega
theorem exec_index {P : Program} {o : Oper} {a : Act} {w : World} {x y : Operand} {t : TypeId} {vx vy v : Value} (ho : o.op = .index t x y) (hx : a.eval x = vx) (hy : a.eval y = vy) (hr : (Instr.index t vx vy).run P w = .ok v w) : (execOp a.eval o).run P w = .ok (.value v) w := by
  unfold execOp
  simp only [ho, hx, hy, Sem.run_bind, hr, Result.andThen_ok, Sem.run_pure]
theorem still_build {P : Program} {S : World → Prop} {o : Oper} {a : Act} {t : TypeId} {parts : Array (Nat × Operand)} (ho : o.op = .build t parts) {vs : Array (Nat × Value)} (hv : (parts.map fun (i, x) => (i, a.eval x)) = vs) {r : Value} (hb : ∀ w, (Instr.build t vs).run P w = .ok r w) :
    ∀ w', S w' → (execOp a.eval o).run P w' = .ok (.value r) w' := by
  intro w' _
  unfold execOp
  simp only [ho, hv, Sem.run_bind, hb w', Result.andThen_ok, Sem.run_pure]
theorem str_get {s : ByteArray} {p : List UInt8} (hs : s = ⟨p.toArray⟩) (i : Nat) (hi : i < p.length) : ∃ c : UInt8, s[i]? = some c ∧ B p i = c.toNat := by
  subst hs
  refine ⟨p[i], ?_, by simp [B, hi]⟩
  have h : i < (⟨p.toArray⟩ : ByteArray).size := by show i < p.toArray.size; simpa using hi
  rw [getElem?_pos _ i h]
  congr 1
theorem still_s_at {P : Program} {S : World → Prop} {o : Oper} {a : Act} {t : TypeId} {x y : Operand} (ho : o.op = .index t x y) (hu : P.underlying t = some .string) {s : ByteArray} {p : List UInt8} (hs : s = ⟨p.toArray⟩) (hx : a.eval x = .string s) (i : Nat)
    (hy : a.eval y = .int .i64 (i : Int)) (hi : i < p.length) : ∀ w', S w' → (execOp a.eval o).run P w' = .ok (.value (.int .u8 (B p i : Nat))) w' :=
  still_str_at ho hu (by rw [hx, hs]; rfl) i hy hi
theorem dash_parts {p : List UInt8} (h : dashOk p = true) : B p 8 = 45 ∧ B p 13 = 45 ∧ B p 18 = 45 ∧ B p 23 = 45 := by
  unfold dashOk at h
  simp only [Bool.and_eq_true, beq_iff_eq] at h
  exact ⟨h.1.1.1, h.1.1.2, h.1.2, h.2⟩
/-- The places of the pairs. -/
def posArr : Array Value := #[.int .i64 0, .int .i64 2, .int .i64 4, .int .i64 6, .int .i64 9, .int .i64 11, .int .i64 14, .int .i64 16, .int .i64 19, .int .i64 21, .int .i64 24, .int .i64 26, .int .i64 28, .int .i64 30, .int .i64 32, .int .i64 34]
theorem run_pos (k : Nat) (hk : k < 16) : ∀ w, (Instr.index 48 (.agg posArr) (.int .i64 (k : Int))).run Tryd.prog w = .ok (.int .i64 ((posU k : Nat) : Int)) w := by
  revert k
  refine lt16 ⟨?_, ?_, ?_, ?_, ?_, ?_, ?_, ?_, ?_, ?_, ?_, ?_, ?_, ?_, ?_, ?_⟩ <;> (intro w; kernel_rfl)
theorem posU_lt (k : Nat) (hk : k < 16) : posU k + 1 < 36 := by
  revert k
  exact lt16 (by decide)
/-- The first k bytes are there. -/
def part (L : List UInt8) (k : Nat) : List Value := bvs (L.take k) ++ List.replicate (16 - k) (.int .u8 0)
theorem part_length (L : List UInt8) (k : Nat) (hL : L.length = 16) (hk : k ≤ 16) : (part L k).length = 16 := by simp [part, bvs_length]; omega
theorem part_one (L : List UInt8) (k : Nat) : ∀ u ∈ part L k, u.oneCell' = true := by
  intro u hu
  rcases List.mem_append.1 hu with h | h
  · exact bvs_one _ u h
  · rw [List.eq_of_mem_replicate h]; rfl
theorem part_end (L : List UInt8) (hL : L.length = 16) : part L 16 = bvs L := by simp [part, ← hL]
theorem part_set (L : List UInt8) (k : Nat) (hL : L.length = 16) (hk : k < 16) : (part L k).set k (.int .u8 (B L k : Nat)) = part L (k + 1) := by
  have h1 : (bvs (L.take k)).length = k := by rw [bvs_length, List.length_take]; omega
  have h2 : L.take (k + 1) = L.take k ++ [L[k]] := List.take_succ_eq_append_getElem (by omega)
  unfold part
  rw [List.set_append_right _ _ (by omega), h1, Nat.sub_self, show 16 - k = (16 - (k + 1)) + 1 by omega, List.replicate_succ, List.set_cons_zero, h2, bvs_append, List.append_assoc]
  congr 2
  simp [B, bvs, bv, hL, hk]
theorem stdB_length (p : List UInt8) : (stdB p).length = 16 := by simp [stdB]
theorem B_stdB (p : List UInt8) (k : Nat) (hk : k < 16) (h : pairOk p (posU k) = true) : ((B (stdB p) k : Nat) : Int) = xtN (B p (posU k)) (B p (posU k + 1)) := by
  unfold pairOk at h
  rw [Bool.and_eq_true] at h
  rw [xtN_ok _ _ h.1 h.2]
  have e : B (stdB p) k = (pairV p (posU k)).toNat := by simp [B, stdB, hk]
  rw [e]
  unfold pairV
  have h1 := hexV_or _ (by simpa [okH] using h.1)
  have h2 := hexV_or _ (by simpa [okH] using h.2)
  simp
  omega
theorem stdOk_not {p : List UInt8} (k : Nat) (hk : k < 16) (h : pairOk p (posU k) = false) : stdOk p = false := by
  rw [Bool.eq_false_iff]
  intro h'
  unfold stdOk at h'
  rw [Bool.and_eq_true, List.all_eq_true] at h'
  have := h'.2 k (List.mem_range.2 hk)
  rw [h] at this
  cases this
theorem stdOk_all {p : List UInt8} (hd : dashOk p = true) (h : ∀ j, j < 16 → pairOk p (posU j) = true) : stdOk p = true := by
  unfold stdOk
  rw [hd, Bool.true_and, List.all_eq_true]
  exact fun k hk => h k (List.mem_range.1 hk)
/-- Sixteen values of one cell. -/
def Sixteen (cs : List Value) : Prop := cs.length = 16 ∧ ∀ u ∈ cs, u.oneCell' = true
/-- What Parse answers. -/
def Answer (p : List UInt8) (e : Ending) : Prop := (stdOk p = true → e = .returned (.tuple #[.agg (bvs (stdB p)).toArray, .nilIface])) ∧ (stdOk p = false → ∃ cs u x, Sixteen cs ∧ e = .returned (.tuple #[.agg cs.toArray, .iface u x]))

set_option maxRecDepth 100000 in
theorem parse36_dash (p : List UInt8) (hp : p.length = 36) (w : World) (hT : XTab w) (hd : dashOk p = true) :
    Calls Tryd.prog 14 #[str p] w fun e w' => Answer p e ∧ Below w.heap.size w w' := by
  have hb := Below.refl w.heap.size w
  have HP := Lib.hid hp
  obtain ⟨s, hs⟩ : ∃ s : ByteArray, s = ⟨p.toArray⟩ := ⟨_, rfl⟩
  have hsz : s.size = 36 := by rw [hs]; show p.toArray.size = 36; simpa using hp
  unfold str
  rw [← hs]
  clear hp
  obtain ⟨d8, d13, d18, d23⟩ := dash_parts hd
  obtain ⟨c8, g8, e8⟩ := str_get hs 8 (by rw [HP.out]; decide)
  rw [d8] at e8
  have n8 : c8.toNat = 45 := e8.symm
  have k8 : ∀ h : 8 < s.size, (s[8]'h).toNat = 45 := by intro h; rw [getElem?_pos s 8 h] at g8; rw [Option.some.inj g8]; exact n8
  clear d8 e8 n8 g8
  obtain ⟨c13, g13, e13⟩ := str_get hs 13 (by rw [HP.out]; decide)
  rw [d13] at e13
  have n13 : c13.toNat = 45 := e13.symm
  have k13 : ∀ h : 13 < s.size, (s[13]'h).toNat = 45 := by intro h; rw [getElem?_pos s 13 h] at g13; rw [Option.some.inj g13]; exact n13
  clear d13 e13 n13 g13
  obtain ⟨c18, g18, e18⟩ := str_get hs 18 (by rw [HP.out]; decide)
  rw [d18] at e18
  have n18 : c18.toNat = 45 := e18.symm
  have k18 : ∀ h : 18 < s.size, (s[18]'h).toNat = 45 := by intro h; rw [getElem?_pos s 18 h] at g18; rw [Option.some.inj g18]; exact n18
  clear d18 e18 n18 g18
  obtain ⟨c23, g23, e23⟩ := str_get hs 23 (by rw [HP.out]; decide)
  rw [d23] at e23
  have n23 : c23.toNat = 45 := e23.symm
  have k23 : ∀ h : 23 < s.size, (s[23]'h).toNat = 45 := by intro h; rw [getElem?_pos s 23 h] at g23; rw [Option.some.inj g23]; exact n23
  clear d23 e23 n23 g23
  have HS := Lib.hid hs
  clear hs
  go_enter Tryd.func14, Tryd.ntmps14
  go_wp2_with (refine wp_alloc_blk uuArr hb rfl rfl rfl (Nat.le_refl _) ?_)
  intro w1 b1 g1 s1 hb1
  clear s1
  go_wp2_with (refine wp_alloc_blk uuArr hb1 rfl rfl rfl hb1.size ?_)
  intro w2 b2 g2 s2 hb2
  clear s2
  have b1' := b1.grown g2 (by simp)
  have hlt1 := b1.lt
  have hle1 := hb1.size
  clear b1 g1 g2 hb1
  go_wp2_with (refine wp_val (v := .agg posArr) rfl (still_build (S := fun _ => True) rfl rfl (fun w => by kernel_rfl) _ trivial) ?_)
  obtain ⟨gb, hgb⟩ : ∃ gb, w1.heap.size = gb := ⟨_, rfl⟩
  rw [hgb] at b2 hlt1 ⊢
  have HGB := Lib.hid hgb
  clear hgb
  have HGA : Hid (∀ v, Below w.heap.size w v → w.heap.size ≤ v.heap.size) := Lib.hid (fun v h => h.size)
  obtain ⟨ga, hga⟩ : ∃ ga, w.heap.size = ga := ⟨_, rfl⟩
  rw [hga] at hlt1 b1' hb2 HGA ⊢
  have HGW := Lib.hid hga
  clear hga hle1 hb
  go_wp2
  go_loopw [81] (fun i wr => ∃ k : Nat, k ≤ 16 ∧ i = .int .i64 k ∧ (∀ j, j < k → pairOk p (posU j) = true) ∧ Blk wr gb (part (stdB p) k) 35 ∧ Blk wr ga Z16 35 ∧ Below ga w wr) (fun i _ => 16 - (intOf i).toNat)
  case atStart => exact ⟨0, Nat.zero_le _, rfl, fun j hj => absurd hj (Nat.not_lt_zero _), b2, b1', hb2⟩
  case round =>
    obtain ⟨k, hk, rfl, hall, hB, hA, hw⟩ := hrel
    have HALL := Lib.hid hall
    clear hall
    by_cases hlt : k < 16
    · obtain ⟨q, hq⟩ : ∃ q, posU k = q := ⟨_, rfl⟩
      have hq35 : q + 1 < 36 := by rw [← hq]; exact posU_lt k hlt
      have HQ := Lib.hid hq
      have hpos := run_pos k hlt
      rw [hq] at hpos
      have HPOS := Lib.hid hpos
      clear hq hpos
      go_wp2_with (refine wp_val (v := .int .i64 (q : Int)) rfl (exec_index rfl rfl rfl (HPOS.out _)) ?_)
      refine region_plan2 (fun w' => Below wr.heap.size wr w') [(0, 0), (1, 0), (2, 0), (3, 0), (4, 0), (5, 0), (6, 0), (7, 1), (8, 0), (9, 0), (10, 0), (11, 0), (12, 0)] rfl (by kernel_rfl) (by kernel_rfl) rfl (by intro c a d v w h; cases d <;> exact h) (fun _ _ h => h) ?_
      intro OPS w3 hpW hb3
      clear hpW
      simp only [planOps2, strip, List.filterMap_cons, List.filterMap_nil, List.getElem?_cons_succ, List.getElem?_cons_zero, Option.map_some]
      have hT3 : XTab wr := XTab.kept hT (by rw [HGW.out]; exact hw)
      have hT4 := hT3.keptB hb3 (XTab.lt hT3)
      obtain ⟨xv, hxv⟩ : ∃ xv, xtN (B p q) (B p (q + 1)) = xv := ⟨_, rfl⟩
      obtain ⟨ok, hok⟩ : ∃ ok, (okH (B p q) && okH (B p (q + 1))) = ok := ⟨_, rfl⟩
      have hx := xtob_ok (B p q) (B p (q + 1)) (B_lt _ _) (B_lt _ _) w3 hT4
      rw [hxv, hok] at hx
      have HX := Lib.hid hx
      have HXV := Lib.hid hxv
      have HOK := Lib.hid hok
      have hB3 := hB.kept hb3
      have hA3 := hA.kept hb3
      have hw3 := hw.trans (hb3.mono (HGA.out _ hw))
      clear hx hxv hok hB hA hw hT3 hT4
      refine plan_move rfl rfl ?_
      simp only [Act.put, List.setIfInBounds_toArray, List.set_cons_zero, List.set_cons_succ]
      refine plan_move rfl rfl ?_
      simp only [Act.put, List.setIfInBounds_toArray, List.set_cons_zero, List.set_cons_succ]
      refine plan_still rfl (still_s_at rfl Tryd.underlying9 HS.out rfl q rfl (by rw [HP.out]; omega)) ?_
      simp only [Act.put, List.setIfInBounds_toArray, List.set_cons_zero, List.set_cons_succ]
      refine plan_move rfl rfl ?_
      simp only [Act.put, List.setIfInBounds_toArray, List.set_cons_zero, List.set_cons_succ]
      refine plan_move rfl rfl ?_
      simp only [Act.put, List.setIfInBounds_toArray, List.set_cons_zero, List.set_cons_succ]
      refine plan_still (v := .int .i64 ((q : Int) + 1)) rfl (fun w' hS => by have := wrap_q hq35; go_simp; first | done | exact this) ?_
      simp only [Act.put, List.setIfInBounds_toArray, List.set_cons_zero, List.set_cons_succ]
      refine plan_still rfl (still_s_at rfl Tryd.underlying9 HS.out rfl (q + 1) rfl (by rw [HP.out]; omega)) ?_
      simp only [Act.put, List.setIfInBounds_toArray, List.set_cons_zero, List.set_cons_succ]
      refine plan_do ?_
      go_wp2_with (go_at_call 20; refine HX.out.mono ?_)
      rintro e w4 ⟨rfl, rfl⟩
      go_wp2
      refine ⟨hb3, ?_⟩
      repeat (first | (refine plan_skip rfl ?_) | (refine plan_still (v := ?_) rfl (fun w' hS => ?_) ?_; rotate_left; (focus (go_simp; first | done | with_reducible rfl))); simp only [Act.put, List.setIfInBounds_toArray, List.set_cons_zero, List.set_cons_succ])
      refine plan_nil ?_
      cases ok with
      | false =>
        have hno : stdOk p = false := stdOk_not k hlt (by rw [HQ.out]; exact HOK.out)
        go_wp2
        refine region_plan2 (fun w' => Blk w' gb (part (stdB p) k) 35) [(0, 0), (1, 1), (2, 1), (3, 0)] rfl (by kernel_rfl) (by kernel_rfl) rfl (by intro c a d v w h; cases d <;> exact h) (fun w' h _ => by unfold Blk; rw [h]; exact hB3) ?_
        intro OPS w5 hpW hb5
        clear hpW
        simp only [planOps2, strip, List.filterMap_cons, List.filterMap_nil, List.getElem?_cons_succ, List.getElem?_cons_zero, Option.map_some]
        have hB5 := hB3.kept hb5
        have hA5 := hA3.kept hb5
        have hw5 := hw3.trans (hb5.mono (HGA.out _ hw3))
        have hL5 := Lib.hid (part_length (stdB p) k (stdB_length p) hk)
        refine plan_still rfl (still_blk uuArr rfl rfl (fun w' hS => hS) hL5.out) ?_
        simp only [Act.put, List.setIfInBounds_toArray, List.set_cons_zero, List.set_cons_succ]
        refine plan_do ?_
        go_wp2_with (go_at_call 19; refine (errNew_ok _ _).mono ?_)
        rintro e w6 ⟨rfl, hb6⟩
        have hA6 := hA5.kept hb6
        have hB6 := hB5.kept hb6
        have hw6 := hw5.trans (hb6.mono (HGA.out _ hw5))
        go_wp2
        refine ⟨hB6, ?_⟩
        refine plan_do ?_
        go_wp2_with (refine wp_store_blk uuArr hw6 rfl rfl rfl rfl hA6 (Nat.le_refl _) rfl hL5.out (part_one _ _) ?_)
        intro w7 hA7 g7 s7 hw7
        clear s7
        go_wp2
        refine ⟨hB6.grown g7 (by intro e; have := Option.some.inj e; omega), ?_⟩
        repeat (first | (refine plan_skip rfl ?_) | (refine plan_still (v := ?_) rfl (fun w' hS => ?_) ?_; rotate_left; (focus (go_simp; first | done | with_reducible rfl))); simp only [Act.put, List.setIfInBounds_toArray, List.set_cons_zero, List.set_cons_succ])
        refine plan_nil ?_
        go_wp2
        refine ret_cell_tmp uuArr rfl rfl rfl rfl hA7 hL5.out ⟨⟨fun h => (by rw [hno] at h; cases h), fun _ => ⟨_, _, _, ⟨hL5.out, part_one _ _⟩, rfl⟩⟩, by rw [HGW.out]; exact hw7⟩
      | true =>
        have hpk : pairOk p (posU k) = true := by rw [HQ.out]; exact HOK.out
        have hval := B_stdB p k hlt hpk
        rw [HQ.out, HXV.out] at hval
        have hset := part_set (stdB p) k (stdB_length p) hlt
        rw [hval] at hset
        have HSET := Lib.hid hset
        have hL := Lib.hid (part_length (stdB p) k (stdB_length p) hk)
        have hall' : Hid (∀ j, j < k + 1 → pairOk p (posU j) = true) := fun j hj => by
          by_cases e : j = k
          · rw [e]; exact hpk
          · exact HALL.out j (by omega)
        clear hval hset
        go_wp2_with (refine wp_store_cell (i := k) rfl rfl (by kernel_rfl) rfl rfl rfl hB3 (by rw [hL.out]; omega) ?_)
        intro w5 hB5 g5 s5
        clear s5
        rw [HSET.out] at hB5
        have hA5 := hA3.grown g5 (by intro e; have := Option.some.inj e; omega)
        have hw5 := hw3.grown g5 (HGA.out _ hw3) (by rintro j ⟨⟩; omega)
        go_wp2
        go_roundw
        case rel => exact ⟨k + 1, by omega, by go_num, hall'.out, hB5, hA5, hw5⟩
        case measure => simp [intOf]; omega
    · obtain rfl : k = 16 := by omega
      rw [part_end _ (stdB_length p)] at hB
      have hL := Lib.hid (show (bvs (stdB p)).length = 16 by rw [bvs_length, stdB_length])
      have hstd : stdOk p = true := stdOk_all hd HALL.out
      go_wp2_with (first | (refine wp_load_blk uuArr rfl rfl rfl hB hL.out ?_) | (refine wp_store_blk uuArr hw rfl rfl rfl rfl hA (Nat.le_refl _) rfl hL.out (bvs_one _) ?_))
      intro w5 hA5 g5 s5 hw5
      clear s5
      go_wp2
      refine ret_cell_tmp uuArr rfl rfl rfl rfl hA5 hL.out ⟨⟨fun _ => rfl, fun h => (by rw [hstd] at h; cases h)⟩, by rw [HGW.out]; exact hw5⟩
set_option maxRecDepth 100000 in
theorem parse36_n8 (p : List UInt8) (hp : p.length = 36) (w : World) (hT : XTab w)  (d8 : ¬ B p 8 = 45) :
    Calls Tryd.prog 14 #[str p] w fun e w' => Answer p e ∧ Below w.heap.size w w' := by
  have hb := Below.refl w.heap.size w
  have HP := Lib.hid hp
  obtain ⟨s, hs⟩ : ∃ s : ByteArray, s = ⟨p.toArray⟩ := ⟨_, rfl⟩
  have hsz : s.size = 36 := by rw [hs]; show p.toArray.size = 36; simpa using hp
  unfold str
  rw [← hs]
  clear hp
  have hno : stdOk p = false := by unfold stdOk dashOk; simp [d8]
  obtain ⟨c8, g8, e8⟩ := str_get hs 8 (by rw [HP.out]; decide)
  have k8 : ∀ h : 8 < s.size, (s[8]'h).toNat = B p 8 := by intro h; rw [getElem?_pos s 8 h] at g8; rw [Option.some.inj g8]; exact e8.symm
  have n8 : ((B p 8 : Int) != 45) = true := by rw [bne_iff_ne]; omega
  generalize B p 8 = bb at *
  clear d8 e8 g8
  clear hs
  go_enter Tryd.func14, Tryd.ntmps14
  go_wp2_with (refine wp_alloc_blk uuArr hb rfl rfl rfl (Nat.le_refl _) ?_)
  intro w1 b1 g1 s1 hb1
  clear s1
  go_wp2_with (refine wp_alloc_blk uuArr hb1 rfl rfl rfl hb1.size ?_)
  intro w2 b2 g2 s2 hb2
  clear s2
  have b1' := b1.grown g2 (by simp)
  have hlt1 := b1.lt
  have hle1 := hb1.size
  clear b1 g1 g2 hb1
  go_wp2
  refine region_plan2 (fun w' => Blk w' w1.heap.size Z16 35) [(0, 0), (1, 1), (2, 1), (3, 0)] rfl (by kernel_rfl) (by kernel_rfl) rfl (by intro c a d v w h; cases d <;> exact h) (fun w' h _ => by unfold Blk; rw [h]; exact b2) ?_
  intro OPS w5 hpW hb5
  clear hpW
  simp only [planOps2, strip, List.filterMap_cons, List.filterMap_nil, List.getElem?_cons_succ, List.getElem?_cons_zero, Option.map_some]
  have hB5 := b2.kept hb5
  have hA5 := b1'.kept hb5
  have hw5 := hb2.trans (hb5.mono hb2.size)
  refine plan_still rfl (still_blk uuArr rfl rfl (fun w' hS => hS) rfl) ?_
  simp only [Act.put, List.setIfInBounds_toArray, List.set_cons_zero, List.set_cons_succ]
  refine plan_do ?_
  go_wp2_with (go_at_call 19; refine (errNew_ok _ _).mono ?_)
  rintro e w6 ⟨rfl, hb6⟩
  have hA6 := hA5.kept hb6
  have hB6 := hB5.kept hb6
  have hw6 := hw5.trans (hb6.mono hw5.size)
  go_wp2
  refine ⟨hB6, ?_⟩
  refine plan_do ?_
  go_wp2_with (refine wp_store_blk uuArr hw6 rfl rfl rfl (cs := Z16) rfl hA6 (Nat.le_refl _) rfl rfl (by decide) ?_)
  intro w7 hA7 g7 s7 hw7
  clear s7
  go_wp2
  refine ⟨hB6.grown g7 (by intro e; have := Option.some.inj e; omega), ?_⟩
  repeat (first | (refine plan_skip rfl ?_) | (refine plan_still (v := ?_) rfl (fun w' hS => ?_) ?_; rotate_left; (focus (go_simp; first | done | with_reducible rfl))); simp only [Act.put, List.setIfInBounds_toArray, List.set_cons_zero, List.set_cons_succ])
  refine plan_nil ?_
  go_wp2
  refine ret_cell_tmp uuArr rfl rfl rfl rfl hA7 rfl ⟨⟨fun h => (by rw [hno] at h; cases h), fun _ => ⟨Z16, _, _, ⟨rfl, by decide⟩, rfl⟩⟩, hw7⟩
set_option maxRecDepth 100000 in
theorem parse36_n13 (p : List UInt8) (hp : p.length = 36) (w : World) (hT : XTab w) (d8 : B p 8 = 45) (d13 : ¬ B p 13 = 45) :
    Calls Tryd.prog 14 #[str p] w fun e w' => Answer p e ∧ Below w.heap.size w w' := by
  have hb := Below.refl w.heap.size w
  have HP := Lib.hid hp
  obtain ⟨s, hs⟩ : ∃ s : ByteArray, s = ⟨p.toArray⟩ := ⟨_, rfl⟩
  have hsz : s.size = 36 := by rw [hs]; show p.toArray.size = 36; simpa using hp
  unfold str
  rw [← hs]
  clear hp
  have hno : stdOk p = false := by unfold stdOk dashOk; simp [d13]
  obtain ⟨c8, g8, e8⟩ := str_get hs 8 (by rw [HP.out]; decide)
  rw [d8] at e8
  have n8 : c8.toNat = 45 := e8.symm
  have k8 : ∀ h : 8 < s.size, (s[8]'h).toNat = 45 := by intro h; rw [getElem?_pos s 8 h] at g8; rw [Option.some.inj g8]; exact n8
  clear d8 e8 n8 g8
  obtain ⟨c13, g13, e13⟩ := str_get hs 13 (by rw [HP.out]; decide)
  have k13 : ∀ h : 13 < s.size, (s[13]'h).toNat = B p 13 := by intro h; rw [getElem?_pos s 13 h] at g13; rw [Option.some.inj g13]; exact e13.symm
  have n13 : ((B p 13 : Int) != 45) = true := by rw [bne_iff_ne]; omega
  generalize B p 13 = bb at *
  clear d13 e13 g13
  clear hs
  go_enter Tryd.func14, Tryd.ntmps14
  go_wp2_with (refine wp_alloc_blk uuArr hb rfl rfl rfl (Nat.le_refl _) ?_)
  intro w1 b1 g1 s1 hb1
  clear s1
  go_wp2_with (refine wp_alloc_blk uuArr hb1 rfl rfl rfl hb1.size ?_)
  intro w2 b2 g2 s2 hb2
  clear s2
  have b1' := b1.grown g2 (by simp)
  have hlt1 := b1.lt
  have hle1 := hb1.size
  clear b1 g1 g2 hb1
  go_wp2
  refine region_plan2 (fun w' => Blk w' w1.heap.size Z16 35) [(0, 0), (1, 1), (2, 1), (3, 0)] rfl (by kernel_rfl) (by kernel_rfl) rfl (by intro c a d v w h; cases d <;> exact h) (fun w' h _ => by unfold Blk; rw [h]; exact b2) ?_
  intro OPS w5 hpW hb5
  clear hpW
  simp only [planOps2, strip, List.filterMap_cons, List.filterMap_nil, List.getElem?_cons_succ, List.getElem?_cons_zero, Option.map_some]
  have hB5 := b2.kept hb5
  have hA5 := b1'.kept hb5
  have hw5 := hb2.trans (hb5.mono hb2.size)
  refine plan_still rfl (still_blk uuArr rfl rfl (fun w' hS => hS) rfl) ?_
  simp only [Act.put, List.setIfInBounds_toArray, List.set_cons_zero, List.set_cons_succ]
  refine plan_do ?_
  go_wp2_with (go_at_call 19; refine (errNew_ok _ _).mono ?_)
  rintro e w6 ⟨rfl, hb6⟩
  have hA6 := hA5.kept hb6
  have hB6 := hB5.kept hb6
  have hw6 := hw5.trans (hb6.mono hw5.size)
  go_wp2
  refine ⟨hB6, ?_⟩
  refine plan_do ?_
  go_wp2_with (refine wp_store_blk uuArr hw6 rfl rfl rfl (cs := Z16) rfl hA6 (Nat.le_refl _) rfl rfl (by decide) ?_)
  intro w7 hA7 g7 s7 hw7
  clear s7
  go_wp2
  refine ⟨hB6.grown g7 (by intro e; have := Option.some.inj e; omega), ?_⟩
  repeat (first | (refine plan_skip rfl ?_) | (refine plan_still (v := ?_) rfl (fun w' hS => ?_) ?_; rotate_left; (focus (go_simp; first | done | with_reducible rfl))); simp only [Act.put, List.setIfInBounds_toArray, List.set_cons_zero, List.set_cons_succ])
  refine plan_nil ?_
  go_wp2
  refine ret_cell_tmp uuArr rfl rfl rfl rfl hA7 rfl ⟨⟨fun h => (by rw [hno] at h; cases h), fun _ => ⟨Z16, _, _, ⟨rfl, by decide⟩, rfl⟩⟩, hw7⟩
set_option maxRecDepth 100000 in
theorem parse36_n18 (p : List UInt8) (hp : p.length = 36) (w : World) (hT : XTab w) (d8 : B p 8 = 45) (d13 : B p 13 = 45) (d18 : ¬ B p 18 = 45) :
    Calls Tryd.prog 14 #[str p] w fun e w' => Answer p e ∧ Below w.heap.size w w' := by
  have hb := Below.refl w.heap.size w
  have HP := Lib.hid hp
  obtain ⟨s, hs⟩ : ∃ s : ByteArray, s = ⟨p.toArray⟩ := ⟨_, rfl⟩
  have hsz : s.size = 36 := by rw [hs]; show p.toArray.size = 36; simpa using hp
  unfold str
  rw [← hs]
  clear hp
  have hno : stdOk p = false := by unfold stdOk dashOk; simp [d18]
  obtain ⟨c8, g8, e8⟩ := str_get hs 8 (by rw [HP.out]; decide)
  rw [d8] at e8
  have n8 : c8.toNat = 45 := e8.symm
  have k8 : ∀ h : 8 < s.size, (s[8]'h).toNat = 45 := by intro h; rw [getElem?_pos s 8 h] at g8; rw [Option.some.inj g8]; exact n8
  clear d8 e8 n8 g8
  obtain ⟨c13, g13, e13⟩ := str_get hs 13 (by rw [HP.out]; decide)
  rw [d13] at e13
  have n13 : c13.toNat = 45 := e13.symm
  have k13 : ∀ h : 13 < s.size, (s[13]'h).toNat = 45 := by intro h; rw [getElem?_pos s 13 h] at g13; rw [Option.some.inj g13]; exact n13
  clear d13 e13 n13 g13
  obtain ⟨c18, g18, e18⟩ := str_get hs 18 (by rw [HP.out]; decide)
  have k18 : ∀ h : 18 < s.size, (s[18]'h).toNat = B p 18 := by intro h; rw [getElem?_pos s 18 h] at g18; rw [Option.some.inj g18]; exact e18.symm
  have n18 : ((B p 18 : Int) != 45) = true := by rw [bne_iff_ne]; omega
  generalize B p 18 = bb at *
  clear d18 e18 g18
  clear hs
  go_enter Tryd.func14, Tryd.ntmps14
  go_wp2_with (refine wp_alloc_blk uuArr hb rfl rfl rfl (Nat.le_refl _) ?_)
  intro w1 b1 g1 s1 hb1
  clear s1
  go_wp2_with (refine wp_alloc_blk uuArr hb1 rfl rfl rfl hb1.size ?_)
  intro w2 b2 g2 s2 hb2
  clear s2
  have b1' := b1.grown g2 (by simp)
  have hlt1 := b1.lt
  have hle1 := hb1.size
  clear b1 g1 g2 hb1
  go_wp2
  refine region_plan2 (fun w' => Blk w' w1.heap.size Z16 35) [(0, 0), (1, 1), (2, 1), (3, 0)] rfl (by kernel_rfl) (by kernel_rfl) rfl (by intro c a d v w h; cases d <;> exact h) (fun w' h _ => by unfold Blk; rw [h]; exact b2) ?_
  intro OPS w5 hpW hb5
  clear hpW
  simp only [planOps2, strip, List.filterMap_cons, List.filterMap_nil, List.getElem?_cons_succ, List.getElem?_cons_zero, Option.map_some]
  have hB5 := b2.kept hb5
  have hA5 := b1'.kept hb5
  have hw5 := hb2.trans (hb5.mono hb2.size)
  refine plan_still rfl (still_blk uuArr rfl rfl (fun w' hS => hS) rfl) ?_
  simp only [Act.put, List.setIfInBounds_toArray, List.set_cons_zero, List.set_cons_succ]
  refine plan_do ?_
  go_wp2_with (go_at_call 19; refine (errNew_ok _ _).mono ?_)
  rintro e w6 ⟨rfl, hb6⟩
  have hA6 := hA5.kept hb6
  have hB6 := hB5.kept hb6
  have hw6 := hw5.trans (hb6.mono hw5.size)
  go_wp2
  refine ⟨hB6, ?_⟩
  refine plan_do ?_
  go_wp2_with (refine wp_store_blk uuArr hw6 rfl rfl rfl (cs := Z16) rfl hA6 (Nat.le_refl _) rfl rfl (by decide) ?_)
  intro w7 hA7 g7 s7 hw7
  clear s7
  go_wp2
  refine ⟨hB6.grown g7 (by intro e; have := Option.some.inj e; omega), ?_⟩
  repeat (first | (refine plan_skip rfl ?_) | (refine plan_still (v := ?_) rfl (fun w' hS => ?_) ?_; rotate_left; (focus (go_simp; first | done | with_reducible rfl))); simp only [Act.put, List.setIfInBounds_toArray, List.set_cons_zero, List.set_cons_succ])
  refine plan_nil ?_
  go_wp2
  refine ret_cell_tmp uuArr rfl rfl rfl rfl hA7 rfl ⟨⟨fun h => (by rw [hno] at h; cases h), fun _ => ⟨Z16, _, _, ⟨rfl, by decide⟩, rfl⟩⟩, hw7⟩
set_option maxRecDepth 100000 in
theorem parse36_n23 (p : List UInt8) (hp : p.length = 36) (w : World) (hT : XTab w) (d8 : B p 8 = 45) (d13 : B p 13 = 45) (d18 : B p 18 = 45) (d23 : ¬ B p 23 = 45) :
    Calls Tryd.prog 14 #[str p] w fun e w' => Answer p e ∧ Below w.heap.size w w' := by
  have hb := Below.refl w.heap.size w
  have HP := Lib.hid hp
  obtain ⟨s, hs⟩ : ∃ s : ByteArray, s = ⟨p.toArray⟩ := ⟨_, rfl⟩
  have hsz : s.size = 36 := by rw [hs]; show p.toArray.size = 36; simpa using hp
  unfold str
  rw [← hs]
  clear hp
  have hno : stdOk p = false := by unfold stdOk dashOk; simp [d23]
  obtain ⟨c8, g8, e8⟩ := str_get hs 8 (by rw [HP.out]; decide)
  rw [d8] at e8
  have n8 : c8.toNat = 45 := e8.symm
  have k8 : ∀ h : 8 < s.size, (s[8]'h).toNat = 45 := by intro h; rw [getElem?_pos s 8 h] at g8; rw [Option.some.inj g8]; exact n8
  clear d8 e8 n8 g8
  obtain ⟨c13, g13, e13⟩ := str_get hs 13 (by rw [HP.out]; decide)
  rw [d13] at e13
  have n13 : c13.toNat = 45 := e13.symm
  have k13 : ∀ h : 13 < s.size, (s[13]'h).toNat = 45 := by intro h; rw [getElem?_pos s 13 h] at g13; rw [Option.some.inj g13]; exact n13
  clear d13 e13 n13 g13
  obtain ⟨c18, g18, e18⟩ := str_get hs 18 (by rw [HP.out]; decide)
  rw [d18] at e18
  have n18 : c18.toNat = 45 := e18.symm
  have k18 : ∀ h : 18 < s.size, (s[18]'h).toNat = 45 := by intro h; rw [getElem?_pos s 18 h] at g18; rw [Option.some.inj g18]; exact n18
  clear d18 e18 n18 g18
  obtain ⟨c23, g23, e23⟩ := str_get hs 23 (by rw [HP.out]; decide)
  have k23 : ∀ h : 23 < s.size, (s[23]'h).toNat = B p 23 := by intro h; rw [getElem?_pos s 23 h] at g23; rw [Option.some.inj g23]; exact e23.symm
  have n23 : ((B p 23 : Int) != 45) = true := by rw [bne_iff_ne]; omega
  generalize B p 23 = bb at *
  clear d23 e23 g23
  clear hs
  go_enter Tryd.func14, Tryd.ntmps14
  go_wp2_with (refine wp_alloc_blk uuArr hb rfl rfl rfl (Nat.le_refl _) ?_)
  intro w1 b1 g1 s1 hb1
  clear s1
  go_wp2_with (refine wp_alloc_blk uuArr hb1 rfl rfl rfl hb1.size ?_)
  intro w2 b2 g2 s2 hb2
  clear s2
  have b1' := b1.grown g2 (by simp)
  have hlt1 := b1.lt
  have hle1 := hb1.size
  clear b1 g1 g2 hb1
  go_wp2
  refine region_plan2 (fun w' => Blk w' w1.heap.size Z16 35) [(0, 0), (1, 1), (2, 1), (3, 0)] rfl (by kernel_rfl) (by kernel_rfl) rfl (by intro c a d v w h; cases d <;> exact h) (fun w' h _ => by unfold Blk; rw [h]; exact b2) ?_
  intro OPS w5 hpW hb5
  clear hpW
  simp only [planOps2, strip, List.filterMap_cons, List.filterMap_nil, List.getElem?_cons_succ, List.getElem?_cons_zero, Option.map_some]
  have hB5 := b2.kept hb5
  have hA5 := b1'.kept hb5
  have hw5 := hb2.trans (hb5.mono hb2.size)
  refine plan_still rfl (still_blk uuArr rfl rfl (fun w' hS => hS) rfl) ?_
  simp only [Act.put, List.setIfInBounds_toArray, List.set_cons_zero, List.set_cons_succ]
  refine plan_do ?_
  go_wp2_with (go_at_call 19; refine (errNew_ok _ _).mono ?_)
  rintro e w6 ⟨rfl, hb6⟩
  have hA6 := hA5.kept hb6
  have hB6 := hB5.kept hb6
  have hw6 := hw5.trans (hb6.mono hw5.size)
  go_wp2
  refine ⟨hB6, ?_⟩
  refine plan_do ?_
  go_wp2_with (refine wp_store_blk uuArr hw6 rfl rfl rfl (cs := Z16) rfl hA6 (Nat.le_refl _) rfl rfl (by decide) ?_)
  intro w7 hA7 g7 s7 hw7
  clear s7
  go_wp2
  refine ⟨hB6.grown g7 (by intro e; have := Option.some.inj e; omega), ?_⟩
  repeat (first | (refine plan_skip rfl ?_) | (refine plan_still (v := ?_) rfl (fun w' hS => ?_) ?_; rotate_left; (focus (go_simp; first | done | with_reducible rfl))); simp only [Act.put, List.setIfInBounds_toArray, List.set_cons_zero, List.set_cons_succ])
  refine plan_nil ?_
  go_wp2
  refine ret_cell_tmp uuArr rfl rfl rfl rfl hA7 rfl ⟨⟨fun h => (by rw [hno] at h; cases h), fun _ => ⟨Z16, _, _, ⟨rfl, by decide⟩, rfl⟩⟩, hw7⟩
theorem parse36 (p : List UInt8) (hp : p.length = 36) (w : World) (hT : XTab w) :
    Calls Tryd.prog 14 #[str p] w fun e w' => Answer p e ∧ Below w.heap.size w w' := by
  by_cases d8 : B p 8 = 45
  · by_cases d13 : B p 13 = 45
    · by_cases d18 : B p 18 = 45
      · by_cases d23 : B p 23 = 45
        · exact parse36_dash p hp w hT (by unfold dashOk; simp [d8, d13, d18, d23])
        · exact parse36_n23 p hp w hT d8 d13 d18 d23
      · exact parse36_n18 p hp w hT d8 d13 d18
    · exact parse36_n13 p hp w hT d8 d13
  · exact parse36_n8 p hp w hT d8
end Go.Proofs.YtdjppileeeljnaaDoor
