/- Contracts of uuid.Validate. -/
import Derived.Test.YtdjppileeeljnaaDoorUuidParse2
namespace Go.Proofs.YtdjppileeeljnaaDoor
open Go.RowKit
set_option linter.unusedVariables false
set_option linter.unusedSimpArgs false

/-- A slice built of parts. -/
theorem wp_buildSlice {P : Program} {ops : Array Oper} {rest : List Oper} {o : Oper} {a : Act} {w : World} {Q : Exit → Act → World → Prop} (hgd : o.guard = none) {t : TypeId} {n : Nat} {parts : Array (Nat × Operand)} (ho : o.op = .buildSlice t n parts) {vs : Array (Nat × Value)} (hv : (parts.map fun (i, x) => (i, a.eval x)) = vs) {cs : List Value} {e : TypeId}
    (hb : ∀ w, (Instr.buildSlice t n vs).run P w = .ok (.slice (some ⟨w.heap.size, 0, none⟩) n n) (w.alloc (.cells cs.toArray e)))
    (h : ∀ w', Blk w' w.heap.size cs e → w.grownBy w' none → w'.heap.size = w.heap.size + 1 → wpList P ops Q rest (a.put o.dst (.slice (some ⟨w.heap.size, 0, none⟩) n n)) w') : wpList P ops Q (o :: rest) a w := by
  refine wpList_plain hgd fun K hK => ?_
  unfold Oper.wp execOp
  simp only [ho, hv, Sem.run_bind, hb w, Result.andThen_ok, Sem.run_pure]
  exact hK _ _ (h _ (Blk.new w cs e) (World.grownBy_alloc w _ none) (by simp))
def posL : List Value := [.int .i64 0, .int .i64 2, .int .i64 4, .int .i64 6, .int .i64 9, .int .i64 11, .int .i64 14, .int .i64 16, .int .i64 19, .int .i64 21, .int .i64 24, .int .i64 26, .int .i64 28, .int .i64 30, .int .i64 32, .int .i64 34]
theorem posL_at (k : Nat) (hk : k < 16) : posL[k]? = some (.int .i64 ((posU k : Nat) : Int)) := by
  revert k
  exact lt16 ⟨rfl, rfl, rfl, rfl, rfl, rfl, rfl, rfl, rfl, rfl, rfl, rfl, rfl, rfl, rfl, rfl⟩
/-- What Validate answers. -/
def ValAns (p : List UInt8) (e : Ending) : Prop := (stdOk p = true → e = .returned .nilIface) ∧ (stdOk p = false → ∃ u x, e = .returned (.iface u x))

set_option maxRecDepth 100000 in
theorem val36_dash (p : List UInt8) (hp : p.length = 36) (w : World) (hT : XTab w) (hd : dashOk p = true) :
    Calls Tryd.prog 16 #[str p] w fun e w' => ValAns p e ∧ Below w.heap.size w w' := by
  have hb := Below.refl w.heap.size w
  have HP := Lib.hid hp
  obtain ⟨s, hs⟩ : ∃ s : ByteArray, s = ⟨p.toArray⟩ := ⟨_, rfl⟩
  have hsz : s.size = 36 := by rw [hs]; show p.toArray.size = 36; simpa using hp
  unfold str
  rw [← hs]
  clear hp
  obtain ⟨d8, d13, d18, d23⟩ := dash_parts hd
  obtain ⟨c8, g8, e8⟩ := str_get hs 8 (by rw [HP.out]; decide)
  rw [d8] at e8
  have n8 : c8.toNat = 45 := e8.symm
  have k8 : ∀ h : 8 < s.size, (s[8]'h).toNat = 45 := by intro h; rw [getElem?_pos s 8 h] at g8; rw [Option.some.inj g8]; exact n8
  clear d8 e8 n8 g8
  obtain ⟨c13, g13, e13⟩ := str_get hs 13 (by rw [HP.out]; decide)
  rw [d13] at e13
  have n13 : c13.toNat = 45 := e13.symm
  have k13 : ∀ h : 13 < s.size, (s[13]'h).toNat = 45 := by intro h; rw [getElem?_pos s 13 h] at g13; rw [Option.some.inj g13]; exact n13
  clear d13 e13 n13 g13
  obtain ⟨c18, g18, e18⟩ := str_get hs 18 (by rw [HP.out]; decide)
  rw [d18] at e18
  have n18 : c18.toNat = 45 := e18.symm
  have k18 : ∀ h : 18 < s.size, (s[18]'h).toNat = 45 := by intro h; rw [getElem?_pos s 18 h] at g18; rw [Option.some.inj g18]; exact n18
  clear d18 e18 n18 g18
  obtain ⟨c23, g23, e23⟩ := str_get hs 23 (by rw [HP.out]; decide)
  rw [d23] at e23
  have n23 : c23.toNat = 45 := e23.symm
  have k23 : ∀ h : 23 < s.size, (s[23]'h).toNat = 45 := by intro h; rw [getElem?_pos s 23 h] at g23; rw [Option.some.inj g23]; exact n23
  clear d23 e23 n23 g23
  have HS := Lib.hid hs
  clear hs
  go_enter Tryd.func16, Tryd.ntmps16
  go_wp2_with (refine wp_buildSlice rfl rfl rfl (cs := posL) (e := 3) (fun w => by kernel_rfl) ?_)
  intro w2 b2 g2 s2
  clear s2
  have hb2 := hb.grown g2 (Nat.le_refl _) (by simp)
  obtain ⟨ga, hga⟩ : ∃ ga, w.heap.size = ga := ⟨_, rfl⟩
  have HGA : Hid (∀ v, Below w.heap.size w v → w.heap.size ≤ v.heap.size) := Lib.hid (fun v h => h.size)
  rw [hga] at b2 hb2 HGA ⊢
  have HGW := Lib.hid hga
  clear hga hb g2
  go_wp2
  go_loopw [92] (fun i wr => ∃ k : Nat, k ≤ 16 ∧ i = .int .i64 k ∧ (∀ j, j < k → pairOk p (posU j) = true) ∧ Blk wr ga posL 3 ∧ Below ga w wr) (fun i _ => 16 - (intOf i).toNat)
  case atStart => exact ⟨0, Nat.zero_le _, rfl, fun j hj => absurd hj (Nat.not_lt_zero _), b2, hb2⟩
  case round =>
    obtain ⟨k, hk, rfl, hall, hB, hw⟩ := hrel
    have HALL := Lib.hid hall
    clear hall
    by_cases hlt : k < 16
    · obtain ⟨q, hq⟩ : ∃ q, posU k = q := ⟨_, rfl⟩
      have hq35 : q + 1 < 36 := by rw [← hq]; exact posU_lt k hlt
      have HQ := Lib.hid hq
      have hc : wr.cell? ⟨ga, k, none⟩ = some (.int .i64 (q : Int)) := by rw [hB.cell, posL_at k hlt, hq]
      clear hq
      go_wp2
      refine region_plan2 (fun w' => Below wr.heap.size wr w') [(0, 0), (1, 0), (2, 0), (3, 0), (4, 0), (5, 0), (6, 0), (7, 1), (8, 0), (9, 0), (10, 0), (11, 0), (12, 0)] rfl (by kernel_rfl) (by kernel_rfl) rfl (by intro c a d v w h; cases d <;> exact h) (fun _ _ h => h) ?_
      intro OPS w3 hpW hb3
      clear hpW
      simp only [planOps2, strip, List.filterMap_cons, List.filterMap_nil, List.getElem?_cons_succ, List.getElem?_cons_zero, Option.map_some]
      have hT3 : XTab wr := XTab.kept hT (by rw [HGW.out]; exact hw)
      have hT4 := hT3.keptB hb3 (XTab.lt hT3)
      obtain ⟨xv, hxv⟩ : ∃ xv, xtN (B p q) (B p (q + 1)) = xv := ⟨_, rfl⟩
      obtain ⟨ok, hok⟩ : ∃ ok, (okH (B p q) && okH (B p (q + 1))) = ok := ⟨_, rfl⟩
      have hx := xtob_ok (B p q) (B p (q + 1)) (B_lt _ _) (B_lt _ _) w3 hT4
      rw [hxv, hok] at hx
      have HX := Lib.hid hx
      have HOK := Lib.hid hok
      have hB3 := hB.kept hb3
      have hw3 := hw.trans (hb3.mono (HGA.out _ hw))
      clear hx hxv hok hB hw hT3 hT4 hc
      refine plan_move rfl rfl ?_
      simp only [Act.put, List.setIfInBounds_toArray, List.set_cons_zero, List.set_cons_succ]
      refine plan_move rfl rfl ?_
      simp only [Act.put, List.setIfInBounds_toArray, List.set_cons_zero, List.set_cons_succ]
      refine plan_still rfl (still_s_at rfl Tryd.underlying9 HS.out rfl q rfl (by rw [HP.out]; omega)) ?_
      simp only [Act.put, List.setIfInBounds_toArray, List.set_cons_zero, List.set_cons_succ]
      refine plan_move rfl rfl ?_
      simp only [Act.put, List.setIfInBounds_toArray, List.set_cons_zero, List.set_cons_succ]
      refine plan_move rfl rfl ?_
      simp only [Act.put, List.setIfInBounds_toArray, List.set_cons_zero, List.set_cons_succ]
      refine plan_still (v := .int .i64 ((q : Int) + 1)) rfl (fun w' hS => by have := wrap_q hq35; go_simp; first | done | exact this) ?_
      simp only [Act.put, List.setIfInBounds_toArray, List.set_cons_zero, List.set_cons_succ]
      refine plan_still rfl (still_s_at rfl Tryd.underlying9 HS.out rfl (q + 1) rfl (by rw [HP.out]; omega)) ?_
      simp only [Act.put, List.setIfInBounds_toArray, List.set_cons_zero, List.set_cons_succ]
      refine plan_do ?_
      go_wp2_with (go_at_call 20; refine HX.out.mono ?_)
      rintro e w4 ⟨rfl, rfl⟩
      go_wp2
      refine ⟨hb3, ?_⟩
      repeat (first | (refine plan_skip rfl ?_) | (refine plan_still (v := ?_) rfl (fun w' hS => ?_) ?_; rotate_left; (focus (go_simp; first | done | with_reducible rfl))); simp only [Act.put, List.setIfInBounds_toArray, List.set_cons_zero, List.set_cons_succ])
      refine plan_nil ?_
      cases ok with
      | false =>
        have hno : stdOk p = false := stdOk_not k hlt (by rw [HQ.out]; exact HOK.out)
        go_wp2_with (go_at_call 19; refine (errNew_ok _ _).mono ?_)
        rintro e w6 ⟨rfl, hb6⟩
        go_wp2
        go_ret
        exact ⟨⟨fun h => (by rw [hno] at h; cases h), fun _ => ⟨_, _, rfl⟩⟩, by rw [HGW.out]; exact hw3.trans (hb6.mono (HGA.out _ hw3))⟩
      | true =>
        have hpk : pairOk p (posU k) = true := by rw [HQ.out]; exact HOK.out
        have hall' : Hid (∀ j, j < k + 1 → pairOk p (posU j) = true) := fun j hj => by
          by_cases e : j = k
          · rw [e]; exact hpk
          · exact HALL.out j (by omega)
        go_wp2
        go_roundw
        case rel => exact ⟨k + 1, by omega, by go_num, hall'.out, hB3, hw3⟩
        case measure => simp [intOf]; omega
    · obtain rfl : k = 16 := by omega
      have hstd : stdOk p = true := stdOk_all hd HALL.out
      go_wp2
      go_ret
      exact ⟨⟨fun _ => rfl, fun h => (by rw [hstd] at h; cases h)⟩, by rw [HGW.out]; exact hw⟩
set_option maxRecDepth 100000 in
theorem val36_n8 (p : List UInt8) (hp : p.length = 36) (w : World) (hT : XTab w)  (d8 : ¬ B p 8 = 45) :
    Calls Tryd.prog 16 #[str p] w fun e w' => ValAns p e ∧ Below w.heap.size w w' := by
  have hb := Below.refl w.heap.size w
  have HP := Lib.hid hp
  obtain ⟨s, hs⟩ : ∃ s : ByteArray, s = ⟨p.toArray⟩ := ⟨_, rfl⟩
  have hsz : s.size = 36 := by rw [hs]; show p.toArray.size = 36; simpa using hp
  unfold str
  rw [← hs]
  clear hp
  have hno : stdOk p = false := by unfold stdOk dashOk; simp [d8]
  obtain ⟨c8, g8, e8⟩ := str_get hs 8 (by rw [HP.out]; decide)
  have k8 : ∀ h : 8 < s.size, (s[8]'h).toNat = B p 8 := by intro h; rw [getElem?_pos s 8 h] at g8; rw [Option.some.inj g8]; exact e8.symm
  have n8 : ((B p 8 : Int) != 45) = true := by rw [bne_iff_ne]; omega
  generalize B p 8 = bb at *
  clear d8 e8 g8
  clear hs
  go_enter Tryd.func16, Tryd.ntmps16
  go_wp2_with (go_at_call 19; refine (errNew_ok _ _).mono ?_)
  rintro e w6 ⟨rfl, hb6⟩
  go_wp2
  go_ret
  exact ⟨⟨fun h => (by rw [hno] at h; cases h), fun _ => ⟨_, _, rfl⟩⟩, hb6⟩
set_option maxRecDepth 100000 in
theorem val36_n13 (p : List UInt8) (hp : p.length = 36) (w : World) (hT : XTab w) (d8 : B p 8 = 45) (d13 : ¬ B p 13 = 45) :
    Calls Tryd.prog 16 #[str p] w fun e w' => ValAns p e ∧ Below w.heap.size w w' := by
  have hb := Below.refl w.heap.size w
  have HP := Lib.hid hp
  obtain ⟨s, hs⟩ : ∃ s : ByteArray, s = ⟨p.toArray⟩ := ⟨_, rfl⟩
  have hsz : s.size = 36 := by rw [hs]; show p.toArray.size = 36; simpa using hp
  unfold str
  rw [← hs]
  clear hp
  have hno : stdOk p = false := by unfold stdOk dashOk; simp [d13]
  obtain ⟨c8, g8, e8⟩ := str_get hs 8 (by rw [HP.out]; decide)
  rw [d8] at e8
  have n8 : c8.toNat = 45 := e8.symm
  have k8 : ∀ h : 8 < s.size, (s[8]'h).toNat = 45 := by intro h; rw [getElem?_pos s 8 h] at g8; rw [Option.some.inj g8]; exact n8
  clear d8 e8 n8 g8
  obtain ⟨c13, g13, e13⟩ := str_get hs 13 (by rw [HP.out]; decide)
  have k13 : ∀ h : 13 < s.size, (s[13]'h).toNat = B p 13 := by intro h; rw [getElem?_pos s 13 h] at g13; rw [Option.some.inj g13]; exact e13.symm
  have n13 : ((B p 13 : Int) != 45) = true := by rw [bne_iff_ne]; omega
  generalize B p 13 = bb at *
  clear d13 e13 g13
  clear hs
  go_enter Tryd.func16, Tryd.ntmps16
  go_wp2_with (go_at_call 19; refine (errNew_ok _ _).mono ?_)
  rintro e w6 ⟨rfl, hb6⟩
  go_wp2
  go_ret
  exact ⟨⟨fun h => (by rw [hno] at h; cases h), fun _ => ⟨_, _, rfl⟩⟩, hb6⟩
set_option maxRecDepth 100000 in
theorem val36_n18 (p : List UInt8) (hp : p.length = 36) (w : World) (hT : XTab w) (d8 : B p 8 = 45) (d13 : B p 13 = 45) (d18 : ¬ B p 18 = 45) :
    Calls Tryd.prog 16 #[str p] w fun e w' => ValAns p e ∧ Below w.heap.size w w' := by
  have hb := Below.refl w.heap.size w
  have HP := Lib.hid hp
  obtain ⟨s, hs⟩ : ∃ s : ByteArray, s = ⟨p.toArray⟩ := ⟨_, rfl⟩
  have hsz : s.size = 36 := by rw [hs]; show p.toArray.size = 36; simpa using hp
  unfold str
  rw [← hs]
  clear hp
  have hno : stdOk p = false := by unfold stdOk dashOk; simp [d18]
  obtain ⟨c8, g8, e8⟩ := str_get hs 8 (by rw [HP.out]; decide)
  rw [d8] at e8
  have n8 : c8.toNat = 45 := e8.symm
  have k8 : ∀ h : 8 < s.size, (s[8]'h).toNat = 45 := by intro h; rw [getElem?_pos s 8 h] at g8; rw [Option.some.inj g8]; exact n8
  clear d8 e8 n8 g8
  obtain ⟨c13, g13, e13⟩ := str_get hs 13 (by rw [HP.out]; decide)
  rw [d13] at e13
  have n13 : c13.toNat = 45 := e13.symm
  have k13 : ∀ h : 13 < s.size, (s[13]'h).toNat = 45 := by intro h; rw [getElem?_pos s 13 h] at g13; rw [Option.some.inj g13]; exact n13
  clear d13 e13 n13 g13
  obtain ⟨c18, g18, e18⟩ := str_get hs 18 (by rw [HP.out]; decide)
  have k18 : ∀ h : 18 < s.size, (s[18]'h).toNat = B p 18 := by intro h; rw [getElem?_pos s 18 h] at g18; rw [Option.some.inj g18]; exact e18.symm
  have n18 : ((B p 18 : Int) != 45) = true := by rw [bne_iff_ne]; omega
  generalize B p 18 = bb at *
  clear d18 e18 g18
  clear hs
  go_enter Tryd.func16, Tryd.ntmps16
  go_wp2_with (go_at_call 19; refine (errNew_ok _ _).mono ?_)
  rintro e w6 ⟨rfl, hb6⟩
  go_wp2
  go_ret
  exact ⟨⟨fun h => (by rw [hno] at h; cases h), fun _ => ⟨_, _, rfl⟩⟩, hb6⟩
set_option maxRecDepth 100000 in
theorem val36_n23 (p : List UInt8) (hp : p.length = 36) (w : World) (hT : XTab w) (d8 : B p 8 = 45) (d13 : B p 13 = 45) (d18 : B p 18 = 45) (d23 : ¬ B p 23 = 45) :
    Calls Tryd.prog 16 #[str p] w fun e w' => ValAns p e ∧ Below w.heap.size w w' := by
  have hb := Below.refl w.heap.size w
  have HP := Lib.hid hp
  obtain ⟨s, hs⟩ : ∃ s : ByteArray, s = ⟨p.toArray⟩ := ⟨_, rfl⟩
  have hsz : s.size = 36 := by rw [hs]; show p.toArray.size = 36; simpa using hp
  unfold str
  rw [← hs]
  clear hp
  have hno : stdOk p = false := by unfold stdOk dashOk; simp [d23]
  obtain ⟨c8, g8, e8⟩ := str_get hs 8 (by rw [HP.out]; decide)
  rw [d8] at e8
  have n8 : c8.toNat = 45 := e8.symm
  have k8 : ∀ h : 8 < s.size, (s[8]'h).toNat = 45 := by intro h; rw [getElem?_pos s 8 h] at g8; rw [Option.some.inj g8]; exact n8
  clear d8 e8 n8 g8
  obtain ⟨c13, g13, e13⟩ := str_get hs 13 (by rw [HP.out]; decide)
  rw [d13] at e13
  have n13 : c13.toNat = 45 := e13.symm
  have k13 : ∀ h : 13 < s.size, (s[13]'h).toNat = 45 := by intro h; rw [getElem?_pos s 13 h] at g13; rw [Option.some.inj g13]; exact n13
  clear d13 e13 n13 g13
  obtain ⟨c18, g18, e18⟩ := str_get hs 18 (by rw [HP.out]; decide)
  rw [d18] at e18
  have n18 : c18.toNat = 45 := e18.symm
  have k18 : ∀ h : 18 < s.size, (s[18]'h).toNat = 45 := by intro h; rw [getElem?_pos s 18 h] at g18; rw [Option.some.inj g18]; exact n18
  clear d18 e18 n18 g18
  obtain ⟨c23, g23, e23⟩ := str_get hs 23 (by rw [HP.out]; decide)
  have k23 : ∀ h : 23 < s.size, (s[23]'h).toNat = B p 23 := by intro h; rw [getElem?_pos s 23 h] at g23; rw [Option.some.inj g23]; exact e23.symm
  have n23 : ((B p 23 : Int) != 45) = true := by rw [bne_iff_ne]; omega
  generalize B p 23 = bb at *
  clear d23 e23 g23
  clear hs
  go_enter Tryd.func16, Tryd.ntmps16
  go_wp2_with (go_at_call 19; refine (errNew_ok _ _).mono ?_)
  rintro e w6 ⟨rfl, hb6⟩
  go_wp2
  go_ret
  exact ⟨⟨fun h => (by rw [hno] at h; cases h), fun _ => ⟨_, _, rfl⟩⟩, hb6⟩
theorem val36 (p : List UInt8) (hp : p.length = 36) (w : World) (hT : XTab w) :
    Calls Tryd.prog 16 #[str p] w fun e w' => ValAns p e ∧ Below w.heap.size w w' := by
  by_cases d8 : B p 8 = 45
  · by_cases d13 : B p 13 = 45
    · by_cases d18 : B p 18 = 45
      · by_cases d23 : B p 23 = 45
        · exact val36_dash p hp w hT (by unfold dashOk; simp [d8, d13, d18, d23])
        · exact val36_n23 p hp w hT d8 d13 d18 d23
      · exact val36_n18 p hp w hT d8 d13 d18
    · exact val36_n13 p hp w hT d8 d13
  · exact val36_n8 p hp w hT d8
set_option maxRecDepth 100000 in
theorem val45 (p : List UInt8) (hp : p.length = 36) (w : World) (hT : XTab w) (hd : dashOk p = true) :
    Calls Tryd.prog 16 #[str (urnL ++ p)] w fun e w' => ValAns p e ∧ Below w.heap.size w w' := by
  have hb := Below.refl w.heap.size w
  have HP := Lib.hid hp
  obtain ⟨s, hs⟩ : ∃ s : ByteArray, s = ⟨p.toArray⟩ := ⟨_, rfl⟩
  have hsz : s.size = 36 := by rw [hs]; show p.toArray.size = 36; simpa using hp
  obtain ⟨r, hr⟩ : ∃ r : ByteArray, r = ⟨(urnL ++ p).toArray⟩ := ⟨_, rfl⟩
  have hrz : r.size = 45 := by rw [hr]; show (urnL ++ p).toArray.size = 45; simp [hp, urnL]
  have hr1 : r.extract 0 9 = urnB := by rw [hr, bytes_part]; rfl
  have hr2 : r.extract 9 45 = s := by rw [hr, bytes_part, hs]; congr 2; show (p.drop 0).take 36 = p; rw [List.drop_zero, List.take_of_length_le (by omega)]
  unfold str
  rw [← hr]
  clear hp hr
  obtain ⟨d8, d13, d18, d23⟩ := dash_parts hd
  obtain ⟨c8, g8, e8⟩ := str_get hs 8 (by rw [HP.out]; decide)
  rw [d8] at e8
  have n8 : c8.toNat = 45 := e8.symm
  have k8 : ∀ h : 8 < s.size, (s[8]'h).toNat = 45 := by intro h; rw [getElem?_pos s 8 h] at g8; rw [Option.some.inj g8]; exact n8
  clear d8 e8 n8 g8
  obtain ⟨c13, g13, e13⟩ := str_get hs 13 (by rw [HP.out]; decide)
  rw [d13] at e13
  have n13 : c13.toNat = 45 := e13.symm
  have k13 : ∀ h : 13 < s.size, (s[13]'h).toNat = 45 := by intro h; rw [getElem?_pos s 13 h] at g13; rw [Option.some.inj g13]; exact n13
  clear d13 e13 n13 g13
  obtain ⟨c18, g18, e18⟩ := str_get hs 18 (by rw [HP.out]; decide)
  rw [d18] at e18
  have n18 : c18.toNat = 45 := e18.symm
  have k18 : ∀ h : 18 < s.size, (s[18]'h).toNat = 45 := by intro h; rw [getElem?_pos s 18 h] at g18; rw [Option.some.inj g18]; exact n18
  clear d18 e18 n18 g18
  obtain ⟨c23, g23, e23⟩ := str_get hs 23 (by rw [HP.out]; decide)
  rw [d23] at e23
  have n23 : c23.toNat = 45 := e23.symm
  have k23 : ∀ h : 23 < s.size, (s[23]'h).toNat = 45 := by intro h; rw [getElem?_pos s 23 h] at g23; rw [Option.some.inj g23]; exact n23
  clear d23 e23 n23 g23
  have HS := Lib.hid hs
  clear hs
  go_enter Tryd.func16, Tryd.ntmps16
  go_wp2_with (go_at_call 18; refine (eqfold_same urnB _ (by decide) urn_small).mono ?_)
  rintro e w ⟨rfl, rfl⟩
  go_wp2_with (refine wp_buildSlice rfl rfl rfl (cs := posL) (e := 3) (fun w => by kernel_rfl) ?_)
  intro w2 b2 g2 s2
  clear s2
  have hb2 := hb.grown g2 (Nat.le_refl _) (by simp)
  obtain ⟨ga, hga⟩ : ∃ ga, w.heap.size = ga := ⟨_, rfl⟩
  have HGA : Hid (∀ v, Below w.heap.size w v → w.heap.size ≤ v.heap.size) := Lib.hid (fun v h => h.size)
  rw [hga] at b2 hb2 HGA ⊢
  have HGW := Lib.hid hga
  clear hga hb g2
  go_wp2
  go_loopw [92] (fun i wr => ∃ k : Nat, k ≤ 16 ∧ i = .int .i64 k ∧ (∀ j, j < k → pairOk p (posU j) = true) ∧ Blk wr ga posL 3 ∧ Below ga w wr) (fun i _ => 16 - (intOf i).toNat)
  case atStart => exact ⟨0, Nat.zero_le _, rfl, fun j hj => absurd hj (Nat.not_lt_zero _), b2, hb2⟩
  case round =>
    obtain ⟨k, hk, rfl, hall, hB, hw⟩ := hrel
    have HALL := Lib.hid hall
    clear hall
    by_cases hlt : k < 16
    · obtain ⟨q, hq⟩ : ∃ q, posU k = q := ⟨_, rfl⟩
      have hq35 : q + 1 < 36 := by rw [← hq]; exact posU_lt k hlt
      have HQ := Lib.hid hq
      have hc : wr.cell? ⟨ga, k, none⟩ = some (.int .i64 (q : Int)) := by rw [hB.cell, posL_at k hlt, hq]
      clear hq
      go_wp2
      refine region_plan2 (fun w' => Below wr.heap.size wr w') [(0, 0), (1, 0), (2, 0), (3, 0), (4, 0), (5, 0), (6, 0), (7, 1), (8, 0), (9, 0), (10, 0), (11, 0), (12, 0)] rfl (by kernel_rfl) (by kernel_rfl) rfl (by intro c a d v w h; cases d <;> exact h) (fun _ _ h => h) ?_
      intro OPS w3 hpW hb3
      clear hpW
      simp only [planOps2, strip, List.filterMap_cons, List.filterMap_nil, List.getElem?_cons_succ, List.getElem?_cons_zero, Option.map_some]
      have hT3 : XTab wr := XTab.kept hT (by rw [HGW.out]; exact hw)
      have hT4 := hT3.keptB hb3 (XTab.lt hT3)
      obtain ⟨xv, hxv⟩ : ∃ xv, xtN (B p q) (B p (q + 1)) = xv := ⟨_, rfl⟩
      obtain ⟨ok, hok⟩ : ∃ ok, (okH (B p q) && okH (B p (q + 1))) = ok := ⟨_, rfl⟩
      have hx := xtob_ok (B p q) (B p (q + 1)) (B_lt _ _) (B_lt _ _) w3 hT4
      rw [hxv, hok] at hx
      have HX := Lib.hid hx
      have HOK := Lib.hid hok
      have hB3 := hB.kept hb3
      have hw3 := hw.trans (hb3.mono (HGA.out _ hw))
      clear hx hxv hok hB hw hT3 hT4 hc
      refine plan_move rfl rfl ?_
      simp only [Act.put, List.setIfInBounds_toArray, List.set_cons_zero, List.set_cons_succ]
      refine plan_move rfl rfl ?_
      simp only [Act.put, List.setIfInBounds_toArray, List.set_cons_zero, List.set_cons_succ]
      refine plan_still rfl (still_s_at rfl Tryd.underlying9 HS.out rfl q rfl (by rw [HP.out]; omega)) ?_
      simp only [Act.put, List.setIfInBounds_toArray, List.set_cons_zero, List.set_cons_succ]
      refine plan_move rfl rfl ?_
      simp only [Act.put, List.setIfInBounds_toArray, List.set_cons_zero, List.set_cons_succ]
      refine plan_move rfl rfl ?_
      simp only [Act.put, List.setIfInBounds_toArray, List.set_cons_zero, List.set_cons_succ]
      refine plan_still (v := .int .i64 ((q : Int) + 1)) rfl (fun w' hS => by have := wrap_q hq35; go_simp; first | done | exact this) ?_
      simp only [Act.put, List.setIfInBounds_toArray, List.set_cons_zero, List.set_cons_succ]
      refine plan_still rfl (still_s_at rfl Tryd.underlying9 HS.out rfl (q + 1) rfl (by rw [HP.out]; omega)) ?_
      simp only [Act.put, List.setIfInBounds_toArray, List.set_cons_zero, List.set_cons_succ]
      refine plan_do ?_
      go_wp2_with (go_at_call 20; refine HX.out.mono ?_)
      rintro e w4 ⟨rfl, rfl⟩
      go_wp2
      refine ⟨hb3, ?_⟩
      repeat (first | (refine plan_skip rfl ?_) | (refine plan_still (v := ?_) rfl (fun w' hS => ?_) ?_; rotate_left; (focus (go_simp; first | done | with_reducible rfl))); simp only [Act.put, List.setIfInBounds_toArray, List.set_cons_zero, List.set_cons_succ])
      refine plan_nil ?_
      cases ok with
      | false =>
        have hno : stdOk p = false := stdOk_not k hlt (by rw [HQ.out]; exact HOK.out)
        go_wp2_with (go_at_call 19; refine (errNew_ok _ _).mono ?_)
        rintro e w6 ⟨rfl, hb6⟩
        go_wp2
        go_ret
        exact ⟨⟨fun h => (by rw [hno] at h; cases h), fun _ => ⟨_, _, rfl⟩⟩, by rw [HGW.out]; exact hw3.trans (hb6.mono (HGA.out _ hw3))⟩
      | true =>
        have hpk : pairOk p (posU k) = true := by rw [HQ.out]; exact HOK.out
        have hall' : Hid (∀ j, j < k + 1 → pairOk p (posU j) = true) := fun j hj => by
          by_cases e : j = k
          · rw [e]; exact hpk
          · exact HALL.out j (by omega)
        go_wp2
        go_roundw
        case rel => exact ⟨k + 1, by omega, by go_num, hall'.out, hB3, hw3⟩
        case measure => simp [intOf]; omega
    · obtain rfl : k = 16 := by omega
      have hstd : stdOk p = true := stdOk_all hd HALL.out
      go_wp2
      go_ret
      exact ⟨⟨fun _ => rfl, fun h => (by rw [hstd] at h; cases h)⟩, by rw [HGW.out]; exact hw⟩
set_option maxRecDepth 100000 in
theorem val38 (p : List UInt8) (hp : p.length = 36) (w : World) (hT : XTab w) (hd : dashOk p = true) :
    Calls Tryd.prog 16 #[str (123 :: p ++ [125])] w fun e w' => ValAns p e ∧ Below w.heap.size w w' := by
  have hb := Below.refl w.heap.size w
  have HP := Lib.hid hp
  obtain ⟨s, hs⟩ : ∃ s : ByteArray, s = ⟨p.toArray⟩ := ⟨_, rfl⟩
  have hsz : s.size = 36 := by rw [hs]; show p.toArray.size = 36; simpa using hp
  obtain ⟨r, hr⟩ : ∃ r : ByteArray, r = ⟨(123 :: p ++ [125]).toArray⟩ := ⟨_, rfl⟩
  have hrz : r.size = 38 := by rw [hr]; show (123 :: p ++ [125]).toArray.size = 38; simp [hp]
  have hr2 : r.extract 1 37 = s := by rw [hr, bytes_part, hs]; congr 2; show ((p ++ [125]).drop 0).take 36 = p; rw [List.drop_zero, List.take_left' hp]
  have r0 : ∀ h : 0 < r.size, (r[0]'h).toNat = 123 := by
    intro h
    obtain ⟨c, h1, h2⟩ := str_get hr 0 (by simp)
    rw [getElem?_pos r 0 h] at h1
    rw [Option.some.inj h1, ← h2]
    rfl
  have r37 : ∀ h : 37 < r.size, (r[37]'h).toNat = 125 := by
    intro h
    obtain ⟨c, h1, h2⟩ := str_get hr 37 (by simp [hp])
    rw [getElem?_pos r 37 h] at h1
    rw [Option.some.inj h1, ← h2]
    simp [B, List.getElem?_append, hp]
  unfold str
  rw [← hr]
  clear hp hr
  obtain ⟨d8, d13, d18, d23⟩ := dash_parts hd
  obtain ⟨c8, g8, e8⟩ := str_get hs 8 (by rw [HP.out]; decide)
  rw [d8] at e8
  have n8 : c8.toNat = 45 := e8.symm
  have k8 : ∀ h : 8 < s.size, (s[8]'h).toNat = 45 := by intro h; rw [getElem?_pos s 8 h] at g8; rw [Option.some.inj g8]; exact n8
  clear d8 e8 n8 g8
  obtain ⟨c13, g13, e13⟩ := str_get hs 13 (by rw [HP.out]; decide)
  rw [d13] at e13
  have n13 : c13.toNat = 45 := e13.symm
  have k13 : ∀ h : 13 < s.size, (s[13]'h).toNat = 45 := by intro h; rw [getElem?_pos s 13 h] at g13; rw [Option.some.inj g13]; exact n13
  clear d13 e13 n13 g13
  obtain ⟨c18, g18, e18⟩ := str_get hs 18 (by rw [HP.out]; decide)
  rw [d18] at e18
  have n18 : c18.toNat = 45 := e18.symm
  have k18 : ∀ h : 18 < s.size, (s[18]'h).toNat = 45 := by intro h; rw [getElem?_pos s 18 h] at g18; rw [Option.some.inj g18]; exact n18
  clear d18 e18 n18 g18
  obtain ⟨c23, g23, e23⟩ := str_get hs 23 (by rw [HP.out]; decide)
  rw [d23] at e23
  have n23 : c23.toNat = 45 := e23.symm
  have k23 : ∀ h : 23 < s.size, (s[23]'h).toNat = 45 := by intro h; rw [getElem?_pos s 23 h] at g23; rw [Option.some.inj g23]; exact n23
  clear d23 e23 n23 g23
  have HS := Lib.hid hs
  clear hs
  go_enter Tryd.func16, Tryd.ntmps16
  go_wp2_with (refine wp_buildSlice rfl rfl rfl (cs := posL) (e := 3) (fun w => by kernel_rfl) ?_)
  intro w2 b2 g2 s2
  clear s2
  have hb2 := hb.grown g2 (Nat.le_refl _) (by simp)
  obtain ⟨ga, hga⟩ : ∃ ga, w.heap.size = ga := ⟨_, rfl⟩
  have HGA : Hid (∀ v, Below w.heap.size w v → w.heap.size ≤ v.heap.size) := Lib.hid (fun v h => h.size)
  rw [hga] at b2 hb2 HGA ⊢
  have HGW := Lib.hid hga
  clear hga hb g2
  go_wp2
  go_loopw [92] (fun i wr => ∃ k : Nat, k ≤ 16 ∧ i = .int .i64 k ∧ (∀ j, j < k → pairOk p (posU j) = true) ∧ Blk wr ga posL 3 ∧ Below ga w wr) (fun i _ => 16 - (intOf i).toNat)
  case atStart => exact ⟨0, Nat.zero_le _, rfl, fun j hj => absurd hj (Nat.not_lt_zero _), b2, hb2⟩
  case round =>
    obtain ⟨k, hk, rfl, hall, hB, hw⟩ := hrel
    have HALL := Lib.hid hall
    clear hall
    by_cases hlt : k < 16
    · obtain ⟨q, hq⟩ : ∃ q, posU k = q := ⟨_, rfl⟩
      have hq35 : q + 1 < 36 := by rw [← hq]; exact posU_lt k hlt
      have HQ := Lib.hid hq
      have hc : wr.cell? ⟨ga, k, none⟩ = some (.int .i64 (q : Int)) := by rw [hB.cell, posL_at k hlt, hq]
      clear hq
      go_wp2
      refine region_plan2 (fun w' => Below wr.heap.size wr w') [(0, 0), (1, 0), (2, 0), (3, 0), (4, 0), (5, 0), (6, 0), (7, 1), (8, 0), (9, 0), (10, 0), (11, 0), (12, 0)] rfl (by kernel_rfl) (by kernel_rfl) rfl (by intro c a d v w h; cases d <;> exact h) (fun _ _ h => h) ?_
      intro OPS w3 hpW hb3
      clear hpW
      simp only [planOps2, strip, List.filterMap_cons, List.filterMap_nil, List.getElem?_cons_succ, List.getElem?_cons_zero, Option.map_some]
      have hT3 : XTab wr := XTab.kept hT (by rw [HGW.out]; exact hw)
      have hT4 := hT3.keptB hb3 (XTab.lt hT3)
      obtain ⟨xv, hxv⟩ : ∃ xv, xtN (B p q) (B p (q + 1)) = xv := ⟨_, rfl⟩
      obtain ⟨ok, hok⟩ : ∃ ok, (okH (B p q) && okH (B p (q + 1))) = ok := ⟨_, rfl⟩
      have hx := xtob_ok (B p q) (B p (q + 1)) (B_lt _ _) (B_lt _ _) w3 hT4
      rw [hxv, hok] at hx
      have HX := Lib.hid hx
      have HOK := Lib.hid hok
      have hB3 := hB.kept hb3
      have hw3 := hw.trans (hb3.mono (HGA.out _ hw))
      clear hx hxv hok hB hw hT3 hT4 hc
      refine plan_move rfl rfl ?_
      simp only [Act.put, List.setIfInBounds_toArray, List.set_cons_zero, List.set_cons_succ]
      refine plan_move rfl rfl ?_
      simp only [Act.put, List.setIfInBounds_toArray, List.set_cons_zero, List.set_cons_succ]
      refine plan_still rfl (still_s_at rfl Tryd.underlying9 HS.out rfl q rfl (by rw [HP.out]; omega)) ?_
      simp only [Act.put, List.setIfInBounds_toArray, List.set_cons_zero, List.set_cons_succ]
      refine plan_move rfl rfl ?_
      simp only [Act.put, List.setIfInBounds_toArray, List.set_cons_zero, List.set_cons_succ]
      refine plan_move rfl rfl ?_
      simp only [Act.put, List.setIfInBounds_toArray, List.set_cons_zero, List.set_cons_succ]
      refine plan_still (v := .int .i64 ((q : Int) + 1)) rfl (fun w' hS => by have := wrap_q hq35; go_simp; first | done | exact this) ?_
      simp only [Act.put, List.setIfInBounds_toArray, List.set_cons_zero, List.set_cons_succ]
      refine plan_still rfl (still_s_at rfl Tryd.underlying9 HS.out rfl (q + 1) rfl (by rw [HP.out]; omega)) ?_
      simp only [Act.put, List.setIfInBounds_toArray, List.set_cons_zero, List.set_cons_succ]
      refine plan_do ?_
      go_wp2_with (go_at_call 20; refine HX.out.mono ?_)
      rintro e w4 ⟨rfl, rfl⟩
      go_wp2
      refine ⟨hb3, ?_⟩
      repeat (first | (refine plan_skip rfl ?_) | (refine plan_still (v := ?_) rfl (fun w' hS => ?_) ?_; rotate_left; (focus (go_simp; first | done | with_reducible rfl))); simp only [Act.put, List.setIfInBounds_toArray, List.set_cons_zero, List.set_cons_succ])
      refine plan_nil ?_
      cases ok with
      | false =>
        have hno : stdOk p = false := stdOk_not k hlt (by rw [HQ.out]; exact HOK.out)
        go_wp2_with (go_at_call 19; refine (errNew_ok _ _).mono ?_)
        rintro e w6 ⟨rfl, hb6⟩
        go_wp2
        go_ret
        exact ⟨⟨fun h => (by rw [hno] at h; cases h), fun _ => ⟨_, _, rfl⟩⟩, by rw [HGW.out]; exact hw3.trans (hb6.mono (HGA.out _ hw3))⟩
      | true =>
        have hpk : pairOk p (posU k) = true := by rw [HQ.out]; exact HOK.out
        have hall' : Hid (∀ j, j < k + 1 → pairOk p (posU j) = true) := fun j hj => by
          by_cases e : j = k
          · rw [e]; exact hpk
          · exact HALL.out j (by omega)
        go_wp2
        go_roundw
        case rel => exact ⟨k + 1, by omega, by go_num, hall'.out, hB3, hw3⟩
        case measure => simp [intOf]; omega
    · obtain rfl : k = 16 := by omega
      have hstd : stdOk p = true := stdOk_all hd HALL.out
      go_wp2
      go_ret
      exact ⟨⟨fun _ => rfl, fun h => (by rw [hstd] at h; cases h)⟩, by rw [HGW.out]; exact hw⟩
set_option maxRecDepth 100000 in
theorem val32 (p : List UInt8) (hp : p.length = 32) (w : World) (hT : XTab w) (hraw : rawOk p = true) :
    Calls Tryd.prog 16 #[str p] w fun e w' => e = .returned .nilIface ∧ Below w.heap.size w w' := by
  have hb := Below.refl w.heap.size w
  have HP := Lib.hid hp
  have HRAW := Lib.hid hraw
  obtain ⟨s, hs⟩ : ∃ s : ByteArray, s = ⟨p.toArray⟩ := ⟨_, rfl⟩
  have hsz : s.size = 32 := by rw [hs]; show p.toArray.size = 32; simpa using hp
  unfold str
  rw [← hs]
  have HS := Lib.hid hs
  clear hp hs hraw
  go_enter Tryd.func16, Tryd.ntmps16
  go_wp2
  go_loopw [3] (fun i wr => ∃ k : Nat, k ≤ 16 ∧ i = .int .i64 (2 * k : Nat) ∧ Below w.heap.size w wr) (fun i _ => 32 - (intOf i).toNat)
  case atStart => exact ⟨0, Nat.zero_le _, rfl, hb⟩
  case round =>
    obtain ⟨k, hk, rfl, hw⟩ := hrel
    by_cases hlt : k < 16
    · have hpk := rawOk_at HRAW.out k hlt
      obtain ⟨q, hq⟩ : ∃ q, 2 * k = q := ⟨_, rfl⟩
      have hwr := (wrap_2k hq hlt).2
      have hq32 : q < 32 := by omega
      have hq35 : q + 1 < 32 := by omega
      rw [hq] at hpk ⊢
      have HW := Lib.hid hwr
      have HQ := Lib.hid hq
      clear hwr hq
      go_wp2
      refine region_plan2 (fun w' => Below wr.heap.size wr w') [(0, 0), (1, 0), (2, 0), (3, 0), (4, 0), (5, 0), (6, 0), (7, 1), (8, 0), (9, 0), (10, 0), (11, 0), (12, 0)] rfl (by kernel_rfl) (by kernel_rfl) rfl (by intro c a d v w h; cases d <;> exact h) (fun _ _ h => h) ?_
      intro OPS w3 hpW hb3
      clear hpW
      simp only [planOps2, strip, List.filterMap_cons, List.filterMap_nil, List.getElem?_cons_succ, List.getElem?_cons_zero, Option.map_some]
      have hT3 : XTab wr := XTab.kept hT hw
      have hT4 := hT3.keptB hb3 (XTab.lt hT3)
      obtain ⟨xv, hxv⟩ : ∃ xv, xtN (B p q) (B p (q + 1)) = xv := ⟨_, rfl⟩
      have hx := xtob_ok (B p q) (B p (q + 1)) (B_lt _ _) (B_lt _ _) w3 hT4
      rw [hxv, show (okH (B p q) && okH (B p (q + 1))) = true from hpk] at hx
      have HX := Lib.hid hx
      have hw3 := hw.trans (hb3.mono hw.size)
      clear hx hxv hw hT3 hT4 hpk
      refine plan_move rfl rfl ?_
      simp only [Act.put, List.setIfInBounds_toArray, List.set_cons_zero, List.set_cons_succ]
      refine plan_move rfl rfl ?_
      simp only [Act.put, List.setIfInBounds_toArray, List.set_cons_zero, List.set_cons_succ]
      refine plan_still rfl (still_s_at rfl Tryd.underlying9 HS.out rfl q rfl (by rw [HP.out]; omega)) ?_
      simp only [Act.put, List.setIfInBounds_toArray, List.set_cons_zero, List.set_cons_succ]
      refine plan_move rfl rfl ?_
      simp only [Act.put, List.setIfInBounds_toArray, List.set_cons_zero, List.set_cons_succ]
      refine plan_move rfl rfl ?_
      simp only [Act.put, List.setIfInBounds_toArray, List.set_cons_zero, List.set_cons_succ]
      refine plan_still (v := .int .i64 ((q + 1 : Nat) : Int)) rfl (fun w' hS => by have := HW.out; go_simp; first | done | exact this) ?_
      simp only [Act.put, List.setIfInBounds_toArray, List.set_cons_zero, List.set_cons_succ]
      refine plan_still rfl (still_s_at rfl Tryd.underlying9 HS.out rfl (q + 1) rfl (by rw [HP.out]; omega)) ?_
      simp only [Act.put, List.setIfInBounds_toArray, List.set_cons_zero, List.set_cons_succ]
      refine plan_do ?_
      go_wp2_with (go_at_call 20; refine HX.out.mono ?_)
      rintro e w4 ⟨rfl, rfl⟩
      go_wp2
      refine ⟨hb3, ?_⟩
      repeat (first | (refine plan_skip rfl ?_) | (refine plan_still (v := ?_) rfl (fun w' hS => ?_) ?_; rotate_left; (focus (go_simp; first | done | with_reducible rfl))); simp only [Act.put, List.setIfInBounds_toArray, List.set_cons_zero, List.set_cons_succ])
      refine plan_nil ?_
      go_wp2
      go_roundw
      case rel => exact ⟨k + 1, by omega, (by rw [show 2 * (k + 1) = q + 2 by have := HQ.out; omega]; go_num), hw3⟩
      case measure => simp [intOf]; omega
    · obtain rfl : k = 16 := by omega
      go_wp2
      go_ret
      exact ⟨rfl, hw⟩
set_option maxRecDepth 100000 in
theorem val_len (s : ByteArray) (w : World) (hs : s.size ≤ 2147483647) (h36 : s.size ≠ 36) (h45 : s.size ≠ 45) (h38 : s.size ≠ 38) (h32 : s.size ≠ 32) :
    Calls Tryd.prog 16 #[.string s] w fun e w' => (∃ u x, e = .returned (.iface u x)) ∧ Below w.heap.size w w' := by
  have hb := Below.refl w.heap.size w
  have n36 : ((s.size : Int) == 36) = false := by rw [beq_eq_false_iff_ne]; omega
  have n45 : ((s.size : Int) == 45) = false := by rw [beq_eq_false_iff_ne]; omega
  have n38 : ((s.size : Int) == 38) = false := by rw [beq_eq_false_iff_ne]; omega
  have n32 : ((s.size : Int) == 32) = false := by rw [beq_eq_false_iff_ne]; omega
  clear h36 h45 h38 h32
  go_enter Tryd.func16, Tryd.ntmps16
  go_wp2
  go_ret
  exact ⟨⟨_, _, rfl⟩, hb⟩
end Go.Proofs.YtdjppileeeljnaaDoor
