/- The law FnUuidV7Time returns true, and turns nothing that was there. -/
import Derived.Test.YtbnkbgbgdolihaaUTime
namespace Go.Proofs.Ytbnkbgbgdolihaa
open Go.RowKit
set_option linter.unusedVariables false
theorem still_load_i64 {S : World → Prop} {o : Oper} {a : Act} {x : Operand} (ho : o.op = .load 2 x) {ad : Addr} (hx : a.eval x = .pointer (some ad)) {p : Int} (hc : ∀ w', S w' → w'.cell? ad = some (.int .i64 p)) :
    ∀ w', S w' → (execOp a.eval o).run Try.prog w' = .ok (.value (.int .i64 p)) w' := by
  intro w' hS
  have h := hc w' hS
  unfold execOp
  simp only [ho, hx]
  go_simp
theorem v7_six (x : List UInt8) (N : Nat) (hN : N < 1000000000000000000) : num ((v7L x N).take 6) = N / 4096 := by
  have e : (v7L x N).take 6 = be 6 (N / 4096) := by
    unfold v7L v7Head
    rw [List.append_assoc]
    exact List.take_left' (be_length 6 _)
  have h6 : (256 : Nat) ^ 6 = 281474976710656 := by decide
  rw [e, num_be7, h6, Nat.mod_eq_of_lt (by omega)]
theorem v7_eight (x : List UInt8) (N : Nat) (hN : N < 1000000000000000000) : num ((v7L x N).take 8) / 65536 = N / 4096 := by
  have e : (v7L x N).take 8 = v7Head (N / 4096) (N % 4096) := List.take_left' (v7Head_length _ _)
  have h := num_v7Head (N / 4096) (N % 4096) (by omega) (Nat.mod_lt _ (by decide))
  rw [e, h]
  omega
theorem v7_ver (x : List UInt8) (N : Nat) : B (v7L x N) 6 / 16 = 7 := by
  have e : B (v7L x N) 6 = B (v7Head (N / 4096) (N % 4096)) 6 := by
    unfold B v7L
    rw [List.getD_eq_getElem?_getD, List.getD_eq_getElem?_getD, List.getElem?_append_left (by rw [v7Head_length]; decide)]
  rw [e, v7Head_6 _ _ (Nat.mod_lt _ (by decide))]
  omega
theorem ints_at {zs : List Int} {ts : List Nat} (hz : zs = ts.map Int.ofNat) (k : Nat) (h : k < ts.length) : zs.getD k 0 = ((ts.getD k 0 : Nat) : Int) := by
  rw [hz]
  simp [h]
set_option maxRecDepth 100000 in
set_option maxHeartbeats 4000000 in
theorem uuidV7Time_main (at_ ab : Option Addr) (zs : List Int) (ts : List Nat) (x : List UInt8) (n ct cb : Nat) (w : World) (hT : RdI .i64 w at_ zs) (hn : zs.length = n) (hz : zs = ts.map Int.ofNat) (hts : ∀ t ∈ ts, t ≤ 4102444800000000000) (hn12 : n ≤ 12)
    (hx : Rd w ab x) (hxl : x.length = 16) (hcb : 16 ≤ cb) (hcb2 : cb ≤ 9223372036854775807) (htim : (zs.all timeOk && decide (zs.length ≤ 12)) = true) :
    Calls Try.prog 9 #[.slice at_ n ct, .slice ab 16 cb] w fun e w' => e = .returned (.bool true) ∧ Below w.heap.size w w' := by
  have hb := Below.refl w.heap.size w
  have HN := Lib.hid hn
  have HZ := Lib.hid hz
  have HX := Lib.hid hxl
  have HTS := Lib.hid hts
  have HLen := Lib.hid (show ts.length = n by rw [← hn, hz]; simp)
  have htm := timely_ok at_ zs ct w hT
  rw [hn] at htm
  rw [hn] at htim
  rw [htim] at htm
  have HTM := Lib.hid htm
  have HLs := Lib.hid (v7s_length x ts n)
  clear hn hz hxl hts htim htm
  go_enter Try.func9, Try.ntmps9
  go_wp2_with (go_at_call 19; refine HTM.out.mono ?_; rintro e w1 ⟨rfl, rfl⟩)
  go_loopw [5] (fun i wr => ∃ k : Nat, 1 ≤ k ∧ (k ≤ n ∨ k = 1) ∧ i = .int .i64 k ∧ Hid (∀ j, j + 1 < k → ts.getD j 0 + 1000000 ≤ ts.getD (j + 1) 0) ∧ ∃ m, wr = w.drewN m) (fun i _ => n - (intOf i).toNat)
  case atStart => exact ⟨1, Nat.le_refl _, .inr rfl, rfl, Lib.hid (fun j hj => by omega), 0, rfl⟩
  case round =>
    obtain ⟨k, hk1, hk, rfl, hsp, m, rfl⟩ := hrel
    by_cases hlt : k < n
    · obtain ⟨b, o, rfl, hct⟩ := hT.2.2.resolve_left (by intro h; have := HN.out; simp [h] at this; omega)
      have c1 := hct k (by rw [HN.out]; exact hlt)
      have c0 := hct (k - 1) (by rw [HN.out]; omega)
      rw [ints_at HZ.out k (by rw [HLen.out]; exact hlt)] at c1
      rw [ints_at HZ.out (k - 1) (by rw [HLen.out]; omega)] at c0
      have b1 := getD_le ts HTS.out k
      have b0 := getD_le ts HTS.out (k - 1)
      obtain ⟨t1, ht1⟩ : ∃ t, ts.getD k 0 = t := ⟨_, rfl⟩
      obtain ⟨t0, ht0⟩ : ∃ t, ts.getD (k - 1) 0 = t := ⟨_, rfl⟩
      rw [ht1] at c1 b1
      rw [ht0] at c0 b0
      have H1 := Lib.hid ht1
      have H0 := Lib.hid ht0
      clear ht1 ht0 hct
      have e1 : IntKind.i64.wrap ((k : Int) - 1) = ((k - 1 : Nat) : Int) := by rw [IntKind.wrap_i64]; omega
      have e2 : IntKind.i64.wrap ((t0 : Int) + 1000000) = (t0 : Int) + 1000000 := by rw [IntKind.wrap_i64]; omega
      have i1 : (k : Int) < (n : Int) := by omega
      have i0 : ((k - 1 : Nat) : Int) < (n : Int) := by omega
      by_cases hc : t1 < t0 + 1000000
      · have hd : decide ((t1 : Int) < (t0 : Int) + 1000000) = true := decide_eq_true (by omega)
        clear hc
        go_wp2
        go_quiet (fail)
        go_wp2
        go_ret
        exact ⟨rfl, below_drewN (below_drewN hb _) _⟩
      · have hd : decide ((t1 : Int) < (t0 : Int) + 1000000) = false := decide_eq_false (by omega)
        have hsp2 : Hid (∀ j, j + 1 < k + 1 → ts.getD j 0 + 1000000 ≤ ts.getD (j + 1) 0) := Lib.hid (by
          intro j hj
          by_cases hjk : j + 1 = k
          · rw [hjk, H1.out, show j = k - 1 by omega, H0.out]; omega
          · exact hsp.out j (by omega))
        clear hc e1
        have e1 : IntKind.i64.wrap ((k : Int) - 1) = ((k - 1 : Nat) : Int) := by rw [IntKind.wrap_i64]; omega
        go_wp2
        go_quiet (fail)
        clear e1 e2
        go_wp2
        go_roundw
        case rel => exact ⟨k + 1, by omega, .inl (by omega), by go_num, hsp2, _, by first | rfl | (simp only [World.drewN_drewN]; rfl)⟩
        case measure => simp [intOf]; omega
    · have hspn : Hid (∀ j, j + 1 < n → ts.getD j 0 + 1000000 ≤ ts.getD (j + 1) 0) := Lib.hid (fun j hj => hsp.out j (by omega))
      have hb1 : Below w.heap.size w (w.drewN m) := below_drewN hb m
      have T1 := hT.drew m
      have x1 := hx.drew m
      clear hsp hT
      generalize w.drewN m = w1 at *
      go_wp2_with (at_make; refine wp_make_zero rfl rfl Try.underlying22 info5 rfl (n := 6) rfl rfl (by decide) (by decide) ?_)
      intro w2 b2 g2 s2
      have ba2 : Blk w2 w1.heap.size (bvs [0, 0]) 5 := (show Blk (w1.alloc (.cells (bvs [0, 0]).toArray 5)) w1.heap.size (bvs [0, 0]) 5 from Blk.new w1 _ _).grown g2 (by simp)
      have hb12 : Below w1.heap.size w1 w2 := ((Below.refl w1.heap.size w1).alloc (Nat.le_refl _) _).trans ((below_grown g2).mono (by simp))
      have hb2 : Below w.heap.size w w2 := hb1.trans (hb12.mono hb1.size)
      have rr := ba2.rd (by decide)
      have rn := (show Blk w2 _ (bvs (List.replicate 6 0)) 5 from b2).rd (by decide)
      have T2 := T1.kept hb12
      have x2 := x1.kept hb12
      clear b2 g2 s2 ba2
      go_wp2_with (go_at_call 20; refine (uuidClock7_ok at_ _ _ ab zs ts [0, 0] (List.replicate 6 0) x n ct 2 6 cb w2 T2 HN.out HZ.out HTS.out hn12 rr rfl rn rfl x2 HX.out hcb hcb2 (by decide) (by decide)).mono ?_; rintro e w3 ⟨v, vals, rfl, hown, hel, hcap, hb3⟩; obtain ⟨la, lc, rfl, hL⟩ := Elems.rdC hown hel hcap; rw [HLs.out])
      clear hown hel hcap rr rn x2
      have hbw := hb2.trans (hb3.mono hb2.size)
      have T3 := T2.kept hb3
      have HL := Lib.hid (fun h => RdC.at hL h)
      clear hb3 hb2 hL T2 T1 x1 hb12
      go_wp2
      go_loopw [65] (fun i wr => ∃ k : Nat, k ≤ n ∧ i = .int .i64 k ∧ Below w3.heap.size w3 wr) (fun i _ => n - (intOf i).toNat)
      case atStart => exact ⟨0, by omega, rfl, Below.refl _ _⟩
      case round =>
        clear hk1 hk hlt
        obtain ⟨k, hk, rfl, hr⟩ := hrel
        by_cases hlt : k < n
        · obtain ⟨b, off, rfl, hel⟩ := HL.out (by rw [HLs.out]; omega)
          obtain ⟨gi, ci, hc, hci, hrd⟩ := hel k (by rw [HLs.out]; exact hlt)
          rw [v7s_getD x ts n k hlt, v7L_length x _ (by rw [HX.out]; decide)] at hc hci
          rw [v7s_getD x ts n k hlt] at hrd
          have hcr := hr.cell (World.block_lt_of_cell? _ _ hc)
          rw [hc] at hcr
          have hrr := hrd.kept hr
          have hN : nowAt ts (k + 1) < 1000000000000000000 := by have := nowAt_le ts HTS.out (k + 1); omega
          have LW := Lib.hid (v7L_length x (nowAt ts (k + 1)) (by rw [HX.out]; decide))
          have HV := Lib.hid (v7_ver x (nowAt ts (k + 1)))
          have hmi := nowAt_milli ts k (fun j hj => hspn.out j (by omega))
          have h6 := v7_six x _ hN
          have h8 := v7_eight x _ hN
          rw [hmi] at h6 h8
          have htk := getD_le ts HTS.out k
          obtain ⟨bt, ot, rfl, hct⟩ := (T3.kept hr).2.2.resolve_left (by intro h; have := HN.out; simp [h] at this; omega)
          have ct1 := hct k (by rw [HN.out]; exact hlt)
          rw [ints_at HZ.out k (by rw [HLen.out]; exact hlt)] at ct1
          generalize v7L x (nowAt ts (k + 1)) = y at *
          generalize ts.getD k 0 = t at *
          obtain ⟨mm, hmm⟩ : ∃ q, t / 1000000 = q := ⟨_, rfl⟩
          rw [hmm] at h6 h8
          have H6 := Lib.hid h6
          have H8 : Hid (((num (y.take 8) / 65536 * 10000 + 122192928000000000 : Nat) : Int) = (mm : Int) * 10000 + 122192928000000000) := Lib.hid (by rw [h8]; simp)
          have hml : mm ≤ 4102444800000 := by omega
          have q1 : Int.tdiv (t : Int) 1000000 = (mm : Int) := by rw [Int.tdiv_eq_ediv_of_nonneg (by omega)]; omega
          have q2 : IntKind.i64.wrap (mm : Int) = (mm : Int) := by rw [IntKind.wrap_i64]; omega
          have q3 : (t : Int) / 1000000 = (mm : Int) := by omega
          have q4 : IntKind.u64.wrap (mm : Int) = (mm : Int) := by rw [IntKind.wrap_u64]; omega
          have q5 : IntKind.i64.wrap ((mm : Int) * 10000) = (mm : Int) * 10000 := by rw [IntKind.wrap_i64]; omega
          have q6 : IntKind.i64.wrap ((mm : Int) * 10000 + 122192928000000000) = (mm : Int) * 10000 + 122192928000000000 := by rw [IntKind.wrap_i64]; omega
          clear hc hrd hel h6 h8 hmi hmm hN hct T3
          go_wp2_with (go_at_call 23; refine (uuidTime7_ok _ y ci _ hrr LW.out HV.out).mono ?_; rw [H8.out]; rintro e w4 ⟨rfl, hb4⟩)
          have hrr4 := hrr.kept hb4
          have ct4 := (hb4.cell (World.block_lt_of_cell? _ _ ct1)).trans ct1
          refine region_plan (fun w' => Below w4.heap.size w4 w') [(0, 0), (1, 0), (2, 0), (3, 0), (4, 0), (5, 0), (7, 0), (8, 0), (9, 0), (10, 0), (11, 0), (12, 0), (6, 1), (13, 0), (14, 0), (15, 0), (16, 0), (17, 0), (18, 0), (19, 0), (20, 0), (21, 0), (22, 0), (23, 0), (24, 0), (25, 0), (26, 0), (27, 0), (28, 0), (29, 0)] rfl (by kernel_rfl) (by kernel_rfl) rfl (by intro c a d v w h; cases d <;> exact h) (fun _ _ h => h) ?_
          intro w5 hpW hb5
          clear hpW
          simp only [planOps, List.filterMap_cons, List.filterMap_nil, List.getElem?_cons_succ, List.getElem?_cons_zero, Option.map_some]
          refine plan_still (v := .slice (some ⟨gi, 0, none⟩) 16 ci) rfl (fun w' hS => by first | rfl | go_simp) ?_
          simp only [Act.put, List.setIfInBounds_toArray, List.set_cons_zero, List.set_cons_succ]
          refine plan_still (v := .int .i64 16) rfl (fun w' hS => by first | rfl | go_simp) ?_
          simp only [Act.put, List.setIfInBounds_toArray, List.set_cons_zero, List.set_cons_succ]
          refine plan_still (v := .bool false) rfl (fun w' hS => by first | rfl | go_simp) ?_
          simp only [Act.put, List.setIfInBounds_toArray, List.set_cons_zero, List.set_cons_succ]
          refine plan_still (v := .bool false) rfl (fun w' hS => by first | rfl | go_simp) ?_
          simp only [Act.put, List.setIfInBounds_toArray, List.set_cons_zero, List.set_cons_succ]
          refine plan_still (v := .slice (some ⟨gi, 0, none⟩) 16 ci) rfl (fun w' hS => by first | rfl | go_simp) ?_
          simp only [Act.put, List.setIfInBounds_toArray, List.set_cons_zero, List.set_cons_succ]
          refine plan_still rfl (still_slice_to (k := 6) (ad := some ⟨gi, 0, none⟩) (n := 16) (c := ci) rfl Try.underlying22 (by kernel_rfl) rfl rfl (by omega) (by omega)) ?_
          simp only [Act.put, List.setIfInBounds_toArray, List.set_cons_zero, List.set_cons_succ]
          refine plan_still (v := .slice (some ⟨bt, ot, none⟩) n ct) rfl (fun w' hS => by first | rfl | go_simp) ?_
          simp only [Act.put, List.setIfInBounds_toArray, List.set_cons_zero, List.set_cons_succ]
          refine plan_still (v := .int .i64 (k : Int)) rfl (fun w' hS => by first | rfl | go_simp) ?_
          simp only [Act.put, List.setIfInBounds_toArray, List.set_cons_zero, List.set_cons_succ]
          refine plan_still (v := .pointer (some ⟨bt, ot + k, none⟩)) rfl (fun w' hS => by have h1 : k < n := hlt; go_simp) ?_
          simp only [Act.put, List.setIfInBounds_toArray, List.set_cons_zero, List.set_cons_succ]
          refine plan_still rfl (still_load_i64 (ad := ⟨bt, ot + k, none⟩) rfl rfl (fun w' hS => (hS.cell (World.block_lt_of_cell? _ _ ct4)).trans ct4)) ?_
          simp only [Act.put, List.setIfInBounds_toArray, List.set_cons_zero, List.set_cons_succ]
          refine plan_still (v := .int .i64 (mm : Int)) rfl (fun w' hS => by go_simp) ?_
          simp only [Act.put, List.setIfInBounds_toArray, List.set_cons_zero, List.set_cons_succ]
          refine plan_still (v := .int .u64 (mm : Int)) rfl (fun w' hS => by go_simp) ?_
          simp only [Act.put, List.setIfInBounds_toArray, List.set_cons_zero, List.set_cons_succ]
          refine plan_do ?_
          go_wp2_with (go_at_call 25; refine (number_ok _ (y.take 6) 6 ci _ ((hrr4.kept hb5).take 6) (by rw [List.length_take, LW.out]; rfl) (by decide)).mono ?_; rw [H6.out]; rintro e w6 ⟨rfl, rfl⟩)
          refine ⟨hb5, ?_⟩
          refine plan_still (v := .bool false) rfl (fun w' hS => by go_simp) ?_
          simp only [Act.put, List.setIfInBounds_toArray, List.set_cons_zero, List.set_cons_succ]
          refine plan_still (v := .bool false) rfl (fun w' hS => by first | rfl | go_simp) ?_
          simp only [Act.put, List.setIfInBounds_toArray, List.set_cons_zero, List.set_cons_succ]
          refine plan_still (v := .bool false) rfl (fun w' hS => by first | rfl | go_simp) ?_
          simp only [Act.put, List.setIfInBounds_toArray, List.set_cons_zero, List.set_cons_succ]
          refine plan_still (v := .bool true) rfl (fun w' hS => by first | rfl | go_simp) ?_
          simp only [Act.put, List.setIfInBounds_toArray, List.set_cons_zero, List.set_cons_succ]
          refine plan_still (v := .bool false) rfl (fun w' hS => by first | rfl | go_simp) ?_
          simp only [Act.put, List.setIfInBounds_toArray, List.set_cons_zero, List.set_cons_succ]
          refine plan_still (v := .bool false) rfl (fun w' hS => by first | rfl | go_simp) ?_
          simp only [Act.put, List.setIfInBounds_toArray, List.set_cons_zero, List.set_cons_succ]
          refine plan_still (v := .bool false) rfl (fun w' hS => by first | rfl | go_simp) ?_
          simp only [Act.put, List.setIfInBounds_toArray, List.set_cons_zero, List.set_cons_succ]
          refine plan_still (v := .int .i64 ((mm : Int) * 10000 + 122192928000000000)) rfl (fun w' hS => by first | rfl | go_simp) ?_
          simp only [Act.put, List.setIfInBounds_toArray, List.set_cons_zero, List.set_cons_succ]
          refine plan_still (v := .slice (some ⟨bt, ot, none⟩) n ct) rfl (fun w' hS => by first | rfl | go_simp) ?_
          simp only [Act.put, List.setIfInBounds_toArray, List.set_cons_zero, List.set_cons_succ]
          refine plan_still (v := .int .i64 (k : Int)) rfl (fun w' hS => by first | rfl | go_simp) ?_
          simp only [Act.put, List.setIfInBounds_toArray, List.set_cons_zero, List.set_cons_succ]
          refine plan_still (v := .pointer (some ⟨bt, ot + k, none⟩)) rfl (fun w' hS => by have h1 : k < n := hlt; go_simp) ?_
          simp only [Act.put, List.setIfInBounds_toArray, List.set_cons_zero, List.set_cons_succ]
          refine plan_still rfl (still_load_i64 (ad := ⟨bt, ot + k, none⟩) rfl rfl (fun w' hS => (hS.cell (World.block_lt_of_cell? _ _ ct4)).trans ct4)) ?_
          simp only [Act.put, List.setIfInBounds_toArray, List.set_cons_zero, List.set_cons_succ]
          refine plan_still (v := .int .i64 (mm : Int)) rfl (fun w' hS => by go_simp) ?_
          simp only [Act.put, List.setIfInBounds_toArray, List.set_cons_zero, List.set_cons_succ]
          refine plan_still (v := .int .i64 ((mm : Int) * 10000)) rfl (fun w' hS => by go_simp) ?_
          simp only [Act.put, List.setIfInBounds_toArray, List.set_cons_zero, List.set_cons_succ]
          refine plan_still (v := .int .i64 ((mm : Int) * 10000 + 122192928000000000)) rfl (fun w' hS => by go_simp) ?_
          simp only [Act.put, List.setIfInBounds_toArray, List.set_cons_zero, List.set_cons_succ]
          refine plan_still (v := .bool false) rfl (fun w' hS => by go_simp) ?_
          simp only [Act.put, List.setIfInBounds_toArray, List.set_cons_zero, List.set_cons_succ]
          refine plan_still (v := .bool false) rfl (fun w' hS => by first | rfl | go_simp) ?_
          simp only [Act.put, List.setIfInBounds_toArray, List.set_cons_zero, List.set_cons_succ]
          refine plan_nil ?_
          have hbE := hr.trans ((hb4.trans (hb5.mono hb4.size)).mono hr.size)
          clear q1 q2 q3 q4 q5 q6
          go_wp2
          go_roundw
          case rel => exact ⟨k + 1, by omega, by go_num, hbE⟩
          case measure => simp [intOf]; omega
        · obtain rfl : k = n := by omega
          go_wp2
          go_ret
          exact ⟨rfl, hbw.trans (hr.mono hbw.size)⟩
set_option maxRecDepth 100000 in
theorem uuidV7Time_walk (a0 : Option Addr) (x0 : List Int) (c0 : Nat) (a1 : Option Addr) (x1 : List UInt8) (c1 : Nat) (w : World) (h0 : RdI .i64 w a0 x0) (_ : x0.length ≤ c0) (_ : c0 ≤ 9223372036854775807) (h1 : Rd w a1 x1) (hc : x1.length ≤ c1) (hc2 : c1 ≤ 9223372036854775807) :
    Calls Try.prog 9 #[.slice a0 x0.length c0, .slice a1 x1.length c1] w fun e w' => e = .returned (.bool true) ∧ Below w.heap.size w w' := by
  have hb := Below.refl w.heap.size w
  have hl0 := h0.1
  have hl1 := h1.1
  have htm := timely_ok a0 x0 c0 w h0
  by_cases hb0 : 2147483647 < x0.length
  · clear h0 h1 htm
    generalize x0.length = n0 at *
    generalize x1.length = n1 at *
    go_enter Try.func9, Try.ntmps9
    go_wp2
    go_ret
    exact ⟨rfl, hb⟩
  · by_cases hb1 : 2147483647 < x1.length
    · clear h0 h1 htm
      generalize x0.length = n0 at *
      generalize x1.length = n1 at *
      go_enter Try.func9, Try.ntmps9
      go_wp2
      go_ret
      exact ⟨rfl, hb⟩
    · by_cases hB : (x0.all timeOk && decide (x0.length ≤ 12)) = true
      · by_cases hlen : x1.length = 16
        · obtain ⟨ts, hz, hts, h12⟩ := times_of hB
          rw [hlen]
          exact uuidV7Time_main a0 a1 x0 ts x1 x0.length c0 c1 w h0 rfl hz hts h12 h1 hlen (by omega) hc2 hB
        · rw [hB] at htm
          have hne : ((x1.length : Int) != 16) = true := by rw [bne_iff_ne]; omega
          clear hB h0 h1
          generalize x0.length = n0 at *
          generalize x1.length = n1 at *
          have HT := Lib.hid htm
          clear htm hlen
          go_enter Try.func9, Try.ntmps9
          go_wp2_with (go_at_call 19; refine HT.out.mono ?_; rintro e w1 ⟨rfl, rfl⟩)
          go_ret
          exact ⟨rfl, hb⟩
      · have hF : (x0.all timeOk && decide (x0.length ≤ 12)) = false := by simpa using hB
        rw [hF] at htm
        clear hB hF h0 h1
        generalize x0.length = n0 at *
        generalize x1.length = n1 at *
        have HT := Lib.hid htm
        clear htm
        go_enter Try.func9, Try.ntmps9
        go_wp2_with (go_at_call 19; refine HT.out.mono ?_; rintro e w1 ⟨rfl, rfl⟩)
        go_ret
        exact ⟨rfl, hb⟩
end Go.Proofs.Ytbnkbgbgdolihaa
