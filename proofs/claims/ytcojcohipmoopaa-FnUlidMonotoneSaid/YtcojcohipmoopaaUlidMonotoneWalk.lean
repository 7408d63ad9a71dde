/- The law FnUlidMonotone returns true, and turns nothing that was there. -/
import Derived.Test.YtcojcohipmoopaaMFn
import Derived.Test.YtcojcohipmoopaaMDif
import Derived.Test.YtcojcohipmoopaaMPlan
namespace Go.Proofs.Ytcojcohipmoopaa
open Go.RowKit
set_option linter.unusedVariables false
set_option linter.unusedSimpArgs false
theorem num_beM : ∀ (m n : Nat), num (be m n) = n % 256 ^ m
  | 0, n => by simp [be, num, Nat.mod_one]
  | m + 1, n => by
    have h1 : num [UInt8.ofNat n] = n % 256 := by simp [num]
    rw [be, num_append, num_beM m, h1, List.length_singleton, Nat.pow_one, Nat.pow_succ, Nat.mul_comm (256 ^ m), Nat.mod_mul]
    omega
theorem num_be6s (n : Nat) (h : n < 281474976710656) : num (be 6 n) = n := by rw [num_beM]; exact Nat.mod_eq_of_lt h
theorem num_be10 (n : Nat) (h : n < 1208925819614629174706176) : num (be 10 n) = n := by rw [num_beM]; exact Nat.mod_eq_of_lt h
theorem es_lt {Es : List Nat} (h : ∀ x ∈ Es, x < 1208925819614629174706176) (i : Nat) (hi : i < Es.length) : Es.getD i 0 < 1208925819614629174706176 := by
  rw [List.getD_eq_getElem?_getD, List.getElem?_eq_getElem hi]
  exact h _ (List.getElem_mem hi)
theorem mono_at {w : World} {a : Option Addr} {zs : List Int} {Es : List Nat} {k : Nat} (h : RdC w a (ulids zs Es)) (hl : Es.length = k) (h0 : 0 < k) : ∃ b off, a = some ⟨b, off, none⟩ ∧ ∀ i, i < k → ∃ gi ci, w.cell? ⟨b, off + i, none⟩ = some (.slice (some ⟨gi, 0, none⟩) 16 ci) ∧ 16 ≤ ci ∧ Rd w (some ⟨gi, 0, none⟩) (be 6 (zs.getD i 0).toNat ++ be 10 (Es.getD i 0)) := by
  have hll := ulids_length zs Es
  rcases h with h | ⟨b, off, ha, hc⟩
  · rw [h] at hll; simp at hll; omega
  · refine ⟨b, off, ha, fun i hi => ?_⟩
    obtain ⟨gi, ci, h1, h2, h3⟩ := hc i (by rw [hll]; omega)
    rw [ulids_at zs Es i (by omega)] at h1 h2 h3
    rw [List.length_append, be_length, be_length] at h1 h2
    exact ⟨gi, ci, h1, h2, h3⟩
theorem six_rd {w : World} {a : Option Addr} {x y : List UInt8} (h : Rd w a (x ++ y)) (hx : x.length = 6) : Rd w a x := by
  have := h.take 6
  rwa [List.take_left' hx] at this
theorem ten_rd {w : World} {g : Nat} {x y : List UInt8} (h : Rd w (some ⟨g, 0, none⟩) (x ++ y)) (hx : x.length = 6) : Rd w (some ⟨g, 6, none⟩) y := by
  refine ⟨by have := h.1; rw [List.length_append] at this; omega, ?_⟩
  rcases h.2 with h0 | ⟨b, off, ha, hc⟩
  · exact .inl (List.append_eq_nil_iff.1 h0).2
  · simp only [Option.some.injEq, Addr.mk.injEq] at ha
    obtain ⟨rfl, rfl, -⟩ := ha
    refine .inr ⟨_, _, rfl, fun i hi => ?_⟩
    have := hc (6 + i) (by rw [List.length_append, hx]; omega)
    rw [show (0 : Nat) + (6 + i) = 6 + i by omega] at this
    rw [this]
    congr 3
    unfold B
    rw [List.getD_eq_getElem?_getD, List.getD_eq_getElem?_getD, List.getElem?_append_right (by omega), hx, Nat.add_sub_cancel_left]
theorem below_cell5 {w w' : World} {ad : Addr} {v : Value} (h : w.cell? ad = some v) (hb : Below w.heap.size w w') : w'.cell? ad = some v := by
  rw [hb.cell (World.block_lt_of_cell? w _ h)]; exact h
theorem below_drewN {w w' : World} (h : Below w.heap.size w w') (n : Nat) : Below w.heap.size w (w'.drewN n) := h.trans (⟨rfl, rfl, rfl, Nat.le_refl _, fun _ _ => rfl⟩ : Below w.heap.size w' (w'.drewN n))
theorem kn_enter (w : World) : (callFunc 7 #[]).run Try.prog w = .ok (.enter 7 #[]) w := by
  have h := Try.func7
  go_simp
theorem nu_enter (u : Value) (w : World) : (callFunc 5 #[u]).run Try.prog w = .ok (.enter 5 #[u]) w := by
  have h := Try.func5
  go_simp
theorem df_enter (u v : Value) (w : World) : (callFunc 6 #[u, v]).run Try.prog w = .ok (.enter 6 #[u, v]) w := by
  have h := Try.func6
  go_simp
theorem do_call0 {P : Program} {a : Act} {w : World} {o : Oper} {f : FuncId} {ts : Array TypeId} (ho : o.op = .call { callee := .value (.func f), args := #[], argTypes := ts }) (hf : ∀ w, (callFunc f #[]).run P w = .ok (.enter f #[]) w) : (execOp a.eval o).run P w = .ok (.enter f #[]) w := by
  have hm : ((#[] : Array Operand).map a.eval) = #[] := by simp
  unfold execOp
  simp only [ho, hm]
  have := hf w
  go_simp
theorem do_sub1 {P : Program} {a : Act} {w : World} {o : Oper} {t u : TypeId} {x : Operand} (ho : o.op = .binOp .sub t x (.const (.int .i64 1)) u) (hu : P.underlying t = some (.int .i64)) {n : Nat} (hx : a.eval x = .int .i64 ((n + 1 : Nat) : Int)) (hn : n ≤ 1000) : (execOp a.eval o).run P w = .ok (.value (.int .i64 ((n : Nat) : Int))) w := by
  have hc : a.eval (.const (.int .i64 1)) = .int .i64 1 := rfl
  have e : IntKind.i64.wrap (n : Int) = (n : Int) := by rw [IntKind.wrap_i64]; omega
  unfold execOp; simp only [ho, hx, hc]; go_simp
theorem do_six {P : Program} {a : Act} {w : World} {o : Oper} {t e : TypeId} {x : Operand} (ho : o.op = .slice t x (some (.const (.int .i64 6))) none none) (hu : P.underlying t = some (.slice e)) (hs : (P.info? e).map (·.size) = some 1)
    {b c : Nat} (hx : a.eval x = .slice (some ⟨b, 0, none⟩) 16 c) (hc : 6 < c) : (execOp a.eval o).run P w = .ok (.value (.slice (some ⟨b, 6, none⟩) 10 (c - 6))) w := by
  have := still_slice_from (S := fun _ => True) (k := 6) (b := b) (off := 0) (n := 16) (c := c) ho hu hs hx rfl (by decide) hc w trivial
  simpa using this
set_option maxRecDepth 100000 in
set_option maxHeartbeats 1000000 in
theorem ulidMonotone_main (a0 : Option Addr) (zs : List Int) (n c0 seed inc : Nat) (w : World) (h : RdI .u64 w a0 zs) (hn : zs.length = n) (h20 : n ≤ 20) (hs : seed < 4294967296) (hi0 : 1 ≤ inc) (hi : inc ≤ 1099511627776) :
    Calls Try.prog 3 #[.slice a0 n c0, .int .u32 ((seed : Nat) : Int), .int .u64 ((inc : Nat) : Int)] w fun e w' => e = .returned (.bool true) ∧ Below w.heap.size w w' := by
  have hb := Below.refl w.heap.size w
  have HN := Lib.hid hn
  have H := Lib.hid h
  have HW := Lib.hid h.2.1
  clear hn h
  go_enter Try.func3, Try.ntmps3
  go_wp2
  go_loopw [30] (fun i wr => ∃ k : Nat, k ≤ n ∧ i = .int .i64 k ∧ wr = w ∧ Hid (∀ j, j < k → 0 ≤ zs.getD j 0 ∧ zs.getD j 0 < 281474976710656)) (fun i _ => n - (intOf i).toNat)
  case atStart => exact ⟨0, Nat.zero_le _, rfl, rfl, fun j hj => absurd hj (Nat.not_lt_zero j)⟩
  case round =>
    obtain ⟨k, hk, rfl, rfl, hall⟩ := hrel
    by_cases hlt : k < n
    · obtain ⟨bt, ot, rfl, hct⟩ := H.out.2.2.resolve_left (by intro h; have := HN.out; simp [h] at this; omega)
      have hc := hct k (by rw [HN.out]; exact hlt)
      have hzz := HW.out _ (getD_in (k := k) (by rw [HN.out]; exact hlt))
      have hz0 : 0 ≤ zs.getD k 0 ∧ zs.getD k 0 < 18446744073709551616 := by
        simp only [Lit.wf, IntKind.min, IntKind.max, IntKind.signed, IntKind.bits] at hzz
        simp at hzz
        simp
        omega
      have HE : Hid (∀ z : Int, zs.getD k 0 = z → z < 281474976710656 → ∀ j, j < k + 1 → 0 ≤ zs.getD j 0 ∧ zs.getD j 0 < 281474976710656) := by
        intro z hz hlt2 j hj
        by_cases hjk : j < k
        · exact hall.out j hjk
        · obtain rfl : j = k := by omega
          omega
      have HE1 := HE.out _ rfl
      clear HE hct hzz
      generalize zs.getD k 0 = z at *
      have HE := Lib.hid HE1
      clear HE1
      by_cases hbig : 281474976710656 ≤ z
      · go_wp2
        go_ret
        exact ⟨rfl, hb⟩
      · have HZ := Lib.hid (HE.out (by omega))
        clear HE
        go_wp2
        go_roundw
        case rel => exact ⟨k + 1, by omega, by go_num, by first | rfl | trivial, HZ⟩
        case measure => simp [intOf]; omega
    · obtain rfl : k = n := by omega
      have hzl : ∀ z ∈ zs, 0 ≤ z ∧ z < 281474976710656 := by
        intro z hz
        obtain ⟨j, hj, rfl⟩ := List.getElem_of_mem hz
        have := hall.out j (by rw [← HN.out]; exact hj)
        rw [List.getD_eq_getElem?_getD, List.getElem?_eq_getElem hj] at this
        exact this
      have HZ := Lib.hid hzl
      clear hzl hall
      go_wp2_with (go_at_call 4; refine (ulidMonotone_fn a0 zs k c0 seed inc _ H.out HN.out h20 HZ.out hs hi0 hi).mono ?_)
      rintro e w2 ⟨oa, oc, Es, rfl, hEl, hfo, hEb, hR, hb2⟩
      have HF := Lib.hid hfo
      have HB := Lib.hid hEb
      have HL := Lib.hid hEl
      have T2 := H.out.kept hb2
      clear hfo hEb hEl
      go_wp2
      rename_i K24 hK24
      refine of_keeps 107 [(56, .int .i64 ((0 : Nat) : Int)), (55, .int .i64 ((k : Nat) : Int)), (54, .slice oa k oc), (9, .slice oa k oc), (2, .int .u64 ((inc : Nat) : Int)), (0, .slice a0 k c0)] ⟨by rfl, rfl, fun x hx => by simp at hx; rcases hx with rfl | rfl | rfl | rfl | rfl | rfl <;> rfl⟩ fun a hk => ?_
      refine wp_loop (fun a' w' => ∃ j, j ≤ k ∧ Keeps 107 [(56, .int .i64 ((j : Nat) : Int)), (55, .int .i64 ((k : Nat) : Int)), (54, .slice oa k oc), (9, .slice oa k oc), (2, .int .u64 ((inc : Nat) : Int)), (0, .slice a0 k c0)] a' ∧ Below w2.heap.size w2 w') (fun a' _ => k - (intOf (a'.eval (.tmp 56))).toNat) ⟨0, Nat.zero_le _, hk, Below.refl _ _⟩ ?_
      clear hk
      rintro a w5 ⟨j, hjk, hk, hb5⟩
      have hmu : (intOf (a.eval (.tmp 56))).toNat = j := by
        rw [hk.at (t := 56) (v := .int .i64 ((j : Nat) : Int)) (by simp)]
        simp [intOf]
      refine wp_seq_k fun K6 hK6 => ?_
      refine wp_region_lit ?_
      refine list_k rfl rfl hk (by decide) (by repeat' (first | exact far_nil _ | refine far_cons (by decide) ?_)) (v := .bool (decide (j < k))) (do_lss rfl Try.underlying3 (hk.at (List.mem_cons_self ..)) (hk.at (List.mem_cons_of_mem _ (List.mem_cons_self ..)))) ?_
      clear hk; intro a hk
      refine hK6 _ _ ?_
      clear hK6
      refine wp_seq_k fun K5 hK5 => ?_
      refine wp_cond (hk.at (List.mem_cons_self ..)) ?_
      have hk2 : Keeps 107 ([(56, .int .i64 ((j : Nat) : Int)), (55, .int .i64 ((k : Nat) : Int)), (54, .slice oa k oc), (9, .slice oa k oc), (2, .int .u64 ((inc : Nat) : Int)), (0, .slice a0 k c0)]) a := by
        refine ⟨hk.1, hk.2.1, fun x hx => hk.2.2 x ?_⟩
        rcases List.mem_cons.1 hx with rfl | hx
        · exact List.mem_cons_of_mem _ (List.mem_cons_self ..)
        rcases List.mem_cons.1 hx with rfl | hx
        · exact List.mem_cons_of_mem _ (List.mem_cons_of_mem _ (List.mem_cons_self ..))
        rcases List.mem_cons.1 hx with rfl | hx
        · exact List.mem_cons_of_mem _ (List.mem_cons_of_mem _ (List.mem_cons_of_mem _ (List.mem_cons_self ..)))
        rcases List.mem_cons.1 hx with rfl | hx
        · exact List.mem_cons_of_mem _ (List.mem_cons_of_mem _ (List.mem_cons_of_mem _ (List.mem_cons_of_mem _ (List.mem_cons_self ..))))
        rcases List.mem_cons.1 hx with rfl | hx
        · exact List.mem_cons_of_mem _ (List.mem_cons_of_mem _ (List.mem_cons_of_mem _ (List.mem_cons_of_mem _ (List.mem_cons_of_mem _ (List.mem_cons_self ..)))))
        rcases List.mem_cons.1 hx with rfl | hx
        · exact List.mem_cons_of_mem _ (List.mem_cons_of_mem _ (List.mem_cons_of_mem _ (List.mem_cons_of_mem _ (List.mem_cons_of_mem _ (List.mem_cons_of_mem _ (List.mem_cons_self ..))))))
        cases hx
      clear hk
      have hk := hk2
      clear hk2
      by_cases hlt : j < k
      case neg =>
        rw [decide_eq_false hlt]
        refine wp_exit ?_
        simp only [Exit.inBlock, Exit.then, if_true]
        refine hK24 _ _ ?_
        clear hK5 hK24
        refine wp_seq_k fun K7 hK7 => ?_
        refine wp_region_lit ?_
        refine wp_call rfl (do_call0 rfl kn_enter) (known_ok _) ?_
        rintro e w6 ⟨rfl, hb6⟩
        refine ⟨_, rfl, ?_⟩
        refine keep_k (v := .bool true) hk (by decide) (by repeat' (first | exact far_nil _ | refine far_cons (by decide) ?_)) ?_
        clear hk; intro a hk
        refine list_k rfl rfl hk (by decide) (by repeat' (first | exact far_nil _ | refine far_cons (by decide) ?_)) (v := .bool true) (do_assign rfl (hk.at (List.mem_cons_self ..))) ?_
        clear hk; intro a hk
        refine hK7 _ _ (wp_ret ?_)
        refine ret_tmp1 (t := 6) rfl hk.2.1 (hk.at (List.mem_cons_self ..)) ⟨rfl, hb2.trans ((hb5.trans (hb6.mono hb5.size)).mono hb2.size)⟩
      case pos =>
        rw [decide_eq_true hlt]
        refine wp_skip (hK5 _ _ ?_)
        clear hK5 hK24
        refine wp_seq_k fun K8 hK8 => ?_
        have HEND : ∀ (a : Act) (w' : World), Keeps 107 [(56, .int .i64 ((j : Nat) : Int)), (55, .int .i64 ((k : Nat) : Int)), (54, .slice oa k oc), (9, .slice oa k oc), (2, .int .u64 ((inc : Nat) : Int)), (0, .slice a0 k c0)] a → Below w2.heap.size w2 w' → K8 a w' := by
          intro a w' hk hbw
          refine hK8 _ _ ?_
          clear hK8
          refine wp_region_lit ?_
          refine list_k rfl rfl hk (by decide) (by repeat' (first | exact far_nil _ | refine far_cons (by decide) ?_)) (v := .int .i64 ((j + 1 : Nat) : Int)) ((do_addN (n := 1) rfl Try.underlying3 (hk.at (List.mem_cons_self ..)) rfl (by rw [IntKind.wrap_i64]; omega))) ?_
          clear hk; intro a hk
          have hk2 : Keeps 107 ([(105, .int .i64 ((j + 1 : Nat) : Int)), (55, .int .i64 ((k : Nat) : Int)), (54, .slice oa k oc), (9, .slice oa k oc), (2, .int .u64 ((inc : Nat) : Int)), (0, .slice a0 k c0)]) a := by
            refine ⟨hk.1, hk.2.1, fun x hx => hk.2.2 x ?_⟩
            rcases List.mem_cons.1 hx with rfl | hx
            · exact List.mem_cons_self ..
            rcases List.mem_cons.1 hx with rfl | hx
            · exact List.mem_cons_of_mem _ (List.mem_cons_of_mem _ (List.mem_cons_self ..))
            rcases List.mem_cons.1 hx with rfl | hx
            · exact List.mem_cons_of_mem _ (List.mem_cons_of_mem _ (List.mem_cons_of_mem _ (List.mem_cons_self ..)))
            rcases List.mem_cons.1 hx with rfl | hx
            · exact List.mem_cons_of_mem _ (List.mem_cons_of_mem _ (List.mem_cons_of_mem _ (List.mem_cons_of_mem _ (List.mem_cons_self ..))))
            rcases List.mem_cons.1 hx with rfl | hx
            · exact List.mem_cons_of_mem _ (List.mem_cons_of_mem _ (List.mem_cons_of_mem _ (List.mem_cons_of_mem _ (List.mem_cons_of_mem _ (List.mem_cons_self ..)))))
            rcases List.mem_cons.1 hx with rfl | hx
            · exact List.mem_cons_of_mem _ (List.mem_cons_of_mem _ (List.mem_cons_of_mem _ (List.mem_cons_of_mem _ (List.mem_cons_of_mem _ (List.mem_cons_of_mem _ (List.mem_cons_self ..))))))
            cases hx
          clear hk
          have hk := hk2
          clear hk2
          refine list_k rfl rfl hk (by decide) (by repeat' (first | exact far_nil _ | refine far_cons (by decide) ?_)) (v := .int .i64 ((j + 1 : Nat) : Int)) (do_move rfl (hk.at (List.mem_cons_self ..))) ?_
          clear hk; intro a hk
          have hk2 : Keeps 107 ([(56, .int .i64 ((j + 1 : Nat) : Int)), (55, .int .i64 ((k : Nat) : Int)), (54, .slice oa k oc), (9, .slice oa k oc), (2, .int .u64 ((inc : Nat) : Int)), (0, .slice a0 k c0)]) a := by
            refine ⟨hk.1, hk.2.1, fun x hx => hk.2.2 x ?_⟩
            rcases List.mem_cons.1 hx with rfl | hx
            · exact List.mem_cons_self ..
            rcases List.mem_cons.1 hx with rfl | hx
            · exact List.mem_cons_of_mem _ (List.mem_cons_of_mem _ (List.mem_cons_self ..))
            rcases List.mem_cons.1 hx with rfl | hx
            · exact List.mem_cons_of_mem _ (List.mem_cons_of_mem _ (List.mem_cons_of_mem _ (List.mem_cons_self ..)))
            rcases List.mem_cons.1 hx with rfl | hx
            · exact List.mem_cons_of_mem _ (List.mem_cons_of_mem _ (List.mem_cons_of_mem _ (List.mem_cons_of_mem _ (List.mem_cons_self ..))))
            rcases List.mem_cons.1 hx with rfl | hx
            · exact List.mem_cons_of_mem _ (List.mem_cons_of_mem _ (List.mem_cons_of_mem _ (List.mem_cons_of_mem _ (List.mem_cons_of_mem _ (List.mem_cons_self ..)))))
            rcases List.mem_cons.1 hx with rfl | hx
            · exact List.mem_cons_of_mem _ (List.mem_cons_of_mem _ (List.mem_cons_of_mem _ (List.mem_cons_of_mem _ (List.mem_cons_of_mem _ (List.mem_cons_of_mem _ (List.mem_cons_self ..))))))
            cases hx
          clear hk
          have hk := hk2
          clear hk2
          have hk2 : Keeps 107 [(56, .int .i64 ((j + 1 : Nat) : Int)), (55, .int .i64 ((k : Nat) : Int)), (54, .slice oa k oc), (9, .slice oa k oc), (2, .int .u64 ((inc : Nat) : Int)), (0, .slice a0 k c0)] a := hk.sub (fun x hx => by simp at hx ⊢; rcases hx with rfl | rfl | rfl | rfl | rfl | rfl <;> simp)
          refine ⟨⟨j + 1, by omega, hk2, hbw⟩, ?_⟩
          rw [hmu, hk2.at (t := 56) (v := .int .i64 ((j + 1 : Nat) : Int)) (by simp)]
          simp [intOf]
          omega
        clear hK8 hmu
        obtain ⟨bt, ot, rfl, hct⟩ := T2.2.2.resolve_left (by intro h; have := HN.out; simp [h] at this; omega)
        obtain ⟨b, off, rfl, hel⟩ := mono_at hR HL.out (by omega)
        have ct1 := hct j (by rw [HN.out]; exact hlt)
        have hzj := HZ.out _ (getD_in (k := j) (by rw [HN.out]; exact hlt))
        obtain ⟨m, hm⟩ : ∃ m : Nat, zs.getD j 0 = (m : Int) := ⟨(zs.getD j 0).toNat, by omega⟩
        have hm48 : m < 281474976710656 := by omega
        obtain ⟨gi, ci, hc, hci, hrd⟩ := hel j hlt
        have hmt : (zs.getD j 0).toNat = m := by rw [hm]; rfl
        rw [hm] at ct1
        rw [hmt] at hrd
        have cz5 := hb5.cell (World.block_lt_of_cell? _ _ ct1)
        rw [ct1] at cz5
        have cl5 := hb5.cell (World.block_lt_of_cell? _ _ hc)
        rw [hc] at cl5
        have r5 := hrd.kept hb5
        clear ct1 hc hrd hmt
        refine wp_block ?_
        refine wp_seq_k fun K9 hK9 => ?_
        refine wp_region_lit ?_
        refine list_k rfl rfl hk (by decide) (by repeat' (first | exact far_nil _ | refine far_cons (by decide) ?_)) (v := .int .i64 ((j : Nat) : Int)) (do_move rfl (hk.at (List.mem_cons_self ..))) ?_
        clear hk; intro a hk
        refine list_k rfl rfl hk (by decide) (by repeat' (first | exact far_nil _ | refine far_cons (by decide) ?_)) (v := .pointer (some ⟨b, off + j, none⟩)) (still_index (S := fun _ => True) rfl Try.underlying25 (by kernel_rfl) (hk.at (List.mem_cons_of_mem _ (List.mem_cons_of_mem _ (List.mem_cons_of_mem _ (List.mem_cons_self ..))))) j (hk.at (List.mem_cons_of_mem _ (List.mem_cons_self ..))) (by omega) _ trivial) ?_
        clear hk; intro a hk
        refine list_k rfl rfl hk (by decide) (by repeat' (first | exact far_nil _ | refine far_cons (by decide) ?_)) (v := .slice (some ⟨gi, 0, none⟩) 16 ci) (do_ldC rfl Try.underlying28 rfl (hk.at (List.mem_cons_self ..)) cl5) ?_
        clear hk; intro a hk
        refine list_k rfl rfl hk (by decide) (by repeat' (first | exact far_nil _ | refine far_cons (by decide) ?_)) (v := .int .i64 ((j : Nat) : Int)) (do_assign rfl (hk.at (List.mem_cons_of_mem _ (List.mem_cons_of_mem _ (List.mem_cons_self ..))))) ?_
        clear hk; intro a hk
        refine list_k rfl rfl hk (by decide) (by repeat' (first | exact far_nil _ | refine far_cons (by decide) ?_)) (v := .slice (some ⟨gi, 0, none⟩) 16 ci) (do_assign rfl (hk.at (List.mem_cons_of_mem _ (List.mem_cons_self ..)))) ?_
        clear hk; intro a hk
        refine hK9 _ _ ?_
        clear hK9
        have hk2 : Keeps 107 ([(12, .slice (some ⟨gi, 0, none⟩) 16 ci), (11, .int .i64 ((j : Nat) : Int)), (56, .int .i64 ((j : Nat) : Int)), (55, .int .i64 ((k : Nat) : Int)), (54, .slice (some ⟨b, off, none⟩) k oc), (9, .slice (some ⟨b, off, none⟩) k oc), (2, .int .u64 ((inc : Nat) : Int)), (0, .slice (some ⟨bt, ot, none⟩) k c0)]) a := by
          refine ⟨hk.1, hk.2.1, fun x hx => hk.2.2 x ?_⟩
          rcases List.mem_cons.1 hx with rfl | hx
          · exact List.mem_cons_self ..
          rcases List.mem_cons.1 hx with rfl | hx
          · exact List.mem_cons_of_mem _ (List.mem_cons_self ..)
          rcases List.mem_cons.1 hx with rfl | hx
          · exact List.mem_cons_of_mem _ (List.mem_cons_of_mem _ (List.mem_cons_of_mem _ (List.mem_cons_of_mem _ (List.mem_cons_of_mem _ (List.mem_cons_self ..)))))
          rcases List.mem_cons.1 hx with rfl | hx
          · exact List.mem_cons_of_mem _ (List.mem_cons_of_mem _ (List.mem_cons_of_mem _ (List.mem_cons_of_mem _ (List.mem_cons_of_mem _ (List.mem_cons_of_mem _ (List.mem_cons_self ..))))))
          rcases List.mem_cons.1 hx with rfl | hx
          · exact List.mem_cons_of_mem _ (List.mem_cons_of_mem _ (List.mem_cons_of_mem _ (List.mem_cons_of_mem _ (List.mem_cons_of_mem _ (List.mem_cons_of_mem _ (List.mem_cons_of_mem _ (List.mem_cons_self ..)))))))
          rcases List.mem_cons.1 hx with rfl | hx
          · exact List.mem_cons_of_mem _ (List.mem_cons_of_mem _ (List.mem_cons_of_mem _ (List.mem_cons_of_mem _ (List.mem_cons_of_mem _ (List.mem_cons_of_mem _ (List.mem_cons_of_mem _ (List.mem_cons_of_mem _ (List.mem_cons_self ..))))))))
          rcases List.mem_cons.1 hx with rfl | hx
          · exact List.mem_cons_of_mem _ (List.mem_cons_of_mem _ (List.mem_cons_of_mem _ (List.mem_cons_of_mem _ (List.mem_cons_of_mem _ (List.mem_cons_of_mem _ (List.mem_cons_of_mem _ (List.mem_cons_of_mem _ (List.mem_cons_of_mem _ (List.mem_cons_self ..)))))))))
          rcases List.mem_cons.1 hx with rfl | hx
          · exact List.mem_cons_of_mem _ (List.mem_cons_of_mem _ (List.mem_cons_of_mem _ (List.mem_cons_of_mem _ (List.mem_cons_of_mem _ (List.mem_cons_of_mem _ (List.mem_cons_of_mem _ (List.mem_cons_of_mem _ (List.mem_cons_of_mem _ (List.mem_cons_of_mem _ (List.mem_cons_self ..))))))))))
          cases hx
        clear hk
        have hk := hk2
        clear hk2
        refine wp_seq_k fun K9 hK9 => ?_
        refine wp_seq_k fun K10 hK10 => ?_
        refine region_plan3 (fun w' => Below w5.heap.size w5 w') [(0, 0), (1, 0), (2, 0), (3, 0), (4, 0), (5, 0), (7, 0), (8, 0), (9, 0), (10, 0), (6, 1), (11, 0), (12, 0)] rfl (by kernel_rfl) (by kernel_rfl) rfl (by intro c a d v w h; cases d <;> exact h) (fun _ _ h => h) ?_
        intro w5d hpW hbd
        clear hpW
        refine plan_k rfl hk (by decide) (by repeat' (first | exact far_nil _ | refine far_cons (by decide) ?_)) (v := .slice (some ⟨gi, 0, none⟩) 16 ci) (fun o ho w' hS => do_move ho (hk.at (List.mem_cons_self ..))) ?_
        clear hk; intro a hk
        refine plan_k rfl hk (by decide) (by repeat' (first | exact far_nil _ | refine far_cons (by decide) ?_)) (v := .int .i64 ((16 : Nat) : Int)) (fun o ho w' hS => do_lenS ho (hk.at (List.mem_cons_self ..)) Try.underlying28) ?_
        clear hk; intro a hk
        refine plan_k rfl hk (by decide) (by repeat' (first | exact far_nil _ | refine far_cons (by decide) ?_)) (v := .bool false) (fun o ho w' hS => (do_neqF (m := 16) (n := 16) ho Try.underlying3 (hk.at (List.mem_cons_self ..)) rfl rfl)) ?_
        clear hk; intro a hk
        refine plan_k rfl hk (by decide) (by repeat' (first | exact far_nil _ | refine far_cons (by decide) ?_)) (v := .bool false) (fun o ho w' hS => do_move ho (hk.at (List.mem_cons_self ..))) ?_
        clear hk; intro a hk
        refine plan_on2 rfl rfl (hk.at (List.mem_cons_self ..)) rfl hk (by decide) (by repeat' (first | exact far_nil _ | refine far_cons (by decide) ?_)) (v := .slice (some ⟨gi, 0, none⟩) 16 ci) (fun o ho w' hS => do_move ho (hk.at (List.mem_cons_of_mem _ (List.mem_cons_of_mem _ (List.mem_cons_of_mem _ (List.mem_cons_of_mem _ (List.mem_cons_self ..))))))) ?_
        clear hk; intro a hk
        refine plan_on2 rfl rfl (hk.at (List.mem_cons_of_mem _ (List.mem_cons_self ..))) rfl hk (by decide) (by repeat' (first | exact far_nil _ | refine far_cons (by decide) ?_)) (v := .slice (some ⟨gi, 0, none⟩) 6 ci) (fun o ho w' hS => do_head (k := 6) ho Try.underlying28 (by kernel_rfl) (hk.at (List.mem_cons_self ..)) rfl (by omega) (by omega)) ?_
        clear hk; intro a hk
        refine plan_on2 rfl rfl (hk.at (List.mem_cons_of_mem _ (List.mem_cons_of_mem _ (List.mem_cons_self ..)))) rfl hk (by decide) (by repeat' (first | exact far_nil _ | refine far_cons (by decide) ?_)) (v := .slice (some ⟨bt, ot, none⟩) k c0) (fun o ho w' hS => do_move ho (hk.at (List.mem_cons_of_mem _ (List.mem_cons_of_mem _ (List.mem_cons_of_mem _ (List.mem_cons_of_mem _ (List.mem_cons_of_mem _ (List.mem_cons_of_mem _ (List.mem_cons_of_mem _ (List.mem_cons_of_mem _ (List.mem_cons_of_mem _ (List.mem_cons_of_mem _ (List.mem_cons_of_mem _ (List.mem_cons_of_mem _ (List.mem_cons_of_mem _ (List.mem_cons_self ..)))))))))))))))) ?_
        clear hk; intro a hk
        refine plan_on2 rfl rfl (hk.at (List.mem_cons_of_mem _ (List.mem_cons_of_mem _ (List.mem_cons_of_mem _ (List.mem_cons_self ..))))) rfl hk (by decide) (by repeat' (first | exact far_nil _ | refine far_cons (by decide) ?_)) (v := .int .i64 ((j : Nat) : Int)) (fun o ho w' hS => do_move ho (hk.at (List.mem_cons_of_mem _ (List.mem_cons_of_mem _ (List.mem_cons_of_mem _ (List.mem_cons_of_mem _ (List.mem_cons_of_mem _ (List.mem_cons_of_mem _ (List.mem_cons_of_mem _ (List.mem_cons_of_mem _ (List.mem_cons_self ..))))))))))) ?_
        clear hk; intro a hk
        refine plan_on2 rfl rfl (hk.at (List.mem_cons_of_mem _ (List.mem_cons_of_mem _ (List.mem_cons_of_mem _ (List.mem_cons_of_mem _ (List.mem_cons_self ..)))))) rfl hk (by decide) (by repeat' (first | exact far_nil _ | refine far_cons (by decide) ?_)) (v := .pointer (some ⟨bt, ot + j, none⟩)) (fun o ho w' hS => still_index (S := fun _ => True) ho Try.underlying22 (by kernel_rfl) (hk.at (List.mem_cons_of_mem _ (List.mem_cons_self ..))) j (hk.at (List.mem_cons_self ..)) (by omega) _ trivial) ?_
        clear hk; intro a hk
        refine plan_on2 rfl rfl (hk.at (List.mem_cons_of_mem _ (List.mem_cons_of_mem _ (List.mem_cons_of_mem _ (List.mem_cons_of_mem _ (List.mem_cons_of_mem _ (List.mem_cons_self ..))))))) rfl hk (by decide) (by repeat' (first | exact far_nil _ | refine far_cons (by decide) ?_)) (v := .int .u64 ((m : Nat) : Int)) (fun o ho w' hS => do_ldC ho Try.underlying24 rfl (hk.at (List.mem_cons_self ..)) (below_cell5 cz5 hS)) ?_
        clear hk; intro a hk
        refine plan_kwG rfl rfl (hk.at (List.mem_cons_of_mem _ (List.mem_cons_of_mem _ (List.mem_cons_of_mem _ (List.mem_cons_of_mem _ (List.mem_cons_of_mem _ (List.mem_cons_of_mem _ (List.mem_cons_self ..)))))))) rfl fun o ho hd hgd => ?_
        refine wp_callW hgd (do_call1 ho (hk.at (List.mem_cons_of_mem _ (List.mem_cons_of_mem _ (List.mem_cons_of_mem _ (List.mem_cons_of_mem _ (List.mem_cons_self ..)))))) (nu_enter _)) (number_ok (some ⟨gi, 0, none⟩) (be 6 m) 6 ci _ (six_rd (r5.kept hbd) (be_length 6 m)) (be_length 6 m) (by decide)) ?_
        rintro e w6 ⟨rfl, rfl⟩
        rw [num_be6s m hm48]
        refine ⟨_, rfl, ?_⟩
        rw [hd]
        refine keep_k (v := .int .u64 ((m : Nat) : Int)) hk (by decide) (by repeat' (first | exact far_nil _ | refine far_cons (by decide) ?_)) ?_
        clear hk; intro a hk
        refine ⟨hbd, ?_⟩
        refine plan_on2 rfl rfl (hk.at (List.mem_cons_of_mem _ (List.mem_cons_of_mem _ (List.mem_cons_of_mem _ (List.mem_cons_of_mem _ (List.mem_cons_of_mem _ (List.mem_cons_of_mem _ (List.mem_cons_of_mem _ (List.mem_cons_self ..))))))))) rfl hk (by decide) (by repeat' (first | exact far_nil _ | refine far_cons (by decide) ?_)) (v := .bool false) (fun o ho w' hS => (do_neqF ho Try.underlying24 (hk.at (List.mem_cons_self ..)) (hk.at (List.mem_cons_of_mem _ (List.mem_cons_self ..))) rfl)) ?_
        clear hk; intro a hk
        refine plan_k rfl hk (by decide) (by repeat' (first | exact far_nil _ | refine far_cons (by decide) ?_)) (v := .bool false) (fun o ho w' hS => do_pickF ho (hk.at (List.mem_cons_of_mem _ (List.mem_cons_of_mem _ (List.mem_cons_of_mem _ (List.mem_cons_of_mem _ (List.mem_cons_of_mem _ (List.mem_cons_of_mem _ (List.mem_cons_of_mem _ (List.mem_cons_of_mem _ (List.mem_cons_self ..)))))))))) (hk.at (List.mem_cons_self ..))) ?_
        clear hk; intro a hk
        refine plan_k0 ?_
        have hb6 := hb5.trans (hbd.mono hb5.size)
        have cz6 := (hbd.cell (World.block_lt_of_cell? _ _ cz5)).trans cz5
        have cl6 := (hbd.cell (World.block_lt_of_cell? _ _ cl5)).trans cl5
        have r6 := r5.kept hbd
        clear cz5 cl5 r5 hbd hb5
        generalize w5d = w6 at *
        refine hK10 _ _ (wp_cond_false (hk.at (List.mem_cons_self ..)) (wp_skip (hK9 _ _ ?_)))
        clear hK10 hK9
        have hk2 : Keeps 107 ([(12, .slice (some ⟨gi, 0, none⟩) 16 ci), (11, .int .i64 ((j : Nat) : Int)), (56, .int .i64 ((j : Nat) : Int)), (55, .int .i64 ((k : Nat) : Int)), (54, .slice (some ⟨b, off, none⟩) k oc), (9, .slice (some ⟨b, off, none⟩) k oc), (2, .int .u64 ((inc : Nat) : Int)), (0, .slice (some ⟨bt, ot, none⟩) k c0)]) a := by
          refine ⟨hk.1, hk.2.1, fun x hx => hk.2.2 x ?_⟩
          rcases List.mem_cons.1 hx with rfl | hx
          · exact List.mem_cons_of_mem _ (List.mem_cons_of_mem _ (List.mem_cons_of_mem _ (List.mem_cons_of_mem _ (List.mem_cons_of_mem _ (List.mem_cons_of_mem _ (List.mem_cons_of_mem _ (List.mem_cons_of_mem _ (List.mem_cons_of_mem _ (List.mem_cons_of_mem _ (List.mem_cons_of_mem _ (List.mem_cons_of_mem _ (List.mem_cons_of_mem _ (List.mem_cons_self ..)))))))))))))
          rcases List.mem_cons.1 hx with rfl | hx
          · exact List.mem_cons_of_mem _ (List.mem_cons_of_mem _ (List.mem_cons_of_mem _ (List.mem_cons_of_mem _ (List.mem_cons_of_mem _ (List.mem_cons_of_mem _ (List.mem_cons_of_mem _ (List.mem_cons_of_mem _ (List.mem_cons_of_mem _ (List.mem_cons_of_mem _ (List.mem_cons_of_mem _ (List.mem_cons_of_mem _ (List.mem_cons_of_mem _ (List.mem_cons_of_mem _ (List.mem_cons_self ..))))))))))))))
          rcases List.mem_cons.1 hx with rfl | hx
          · exact List.mem_cons_of_mem _ (List.mem_cons_of_mem _ (List.mem_cons_of_mem _ (List.mem_cons_of_mem _ (List.mem_cons_of_mem _ (List.mem_cons_of_mem _ (List.mem_cons_of_mem _ (List.mem_cons_of_mem _ (List.mem_cons_of_mem _ (List.mem_cons_of_mem _ (List.mem_cons_of_mem _ (List.mem_cons_of_mem _ (List.mem_cons_of_mem _ (List.mem_cons_of_mem _ (List.mem_cons_of_mem _ (List.mem_cons_self ..)))))))))))))))
          rcases List.mem_cons.1 hx with rfl | hx
          · exact List.mem_cons_of_mem _ (List.mem_cons_of_mem _ (List.mem_cons_of_mem _ (List.mem_cons_of_mem _ (List.mem_cons_of_mem _ (List.mem_cons_of_mem _ (List.mem_cons_of_mem _ (List.mem_cons_of_mem _ (List.mem_cons_of_mem _ (List.mem_cons_of_mem _ (List.mem_cons_of_mem _ (List.mem_cons_of_mem _ (List.mem_cons_of_mem _ (List.mem_cons_of_mem _ (List.mem_cons_of_mem _ (List.mem_cons_of_mem _ (List.mem_cons_self ..))))))))))))))))
          rcases List.mem_cons.1 hx with rfl | hx
          · exact List.mem_cons_of_mem _ (List.mem_cons_of_mem _ (List.mem_cons_of_mem _ (List.mem_cons_of_mem _ (List.mem_cons_of_mem _ (List.mem_cons_of_mem _ (List.mem_cons_of_mem _ (List.mem_cons_of_mem _ (List.mem_cons_of_mem _ (List.mem_cons_of_mem _ (List.mem_cons_of_mem _ (List.mem_cons_of_mem _ (List.mem_cons_of_mem _ (List.mem_cons_of_mem _ (List.mem_cons_of_mem _ (List.mem_cons_of_mem _ (List.mem_cons_of_mem _ (List.mem_cons_self ..)))))))))))))))))
          rcases List.mem_cons.1 hx with rfl | hx
          · exact List.mem_cons_of_mem _ (List.mem_cons_of_mem _ (List.mem_cons_of_mem _ (List.mem_cons_of_mem _ (List.mem_cons_of_mem _ (List.mem_cons_of_mem _ (List.mem_cons_of_mem _ (List.mem_cons_of_mem _ (List.mem_cons_of_mem _ (List.mem_cons_of_mem _ (List.mem_cons_of_mem _ (List.mem_cons_of_mem _ (List.mem_cons_of_mem _ (List.mem_cons_of_mem _ (List.mem_cons_of_mem _ (List.mem_cons_of_mem _ (List.mem_cons_of_mem _ (List.mem_cons_of_mem _ (List.mem_cons_self ..))))))))))))))))))
          rcases List.mem_cons.1 hx with rfl | hx
          · exact List.mem_cons_of_mem _ (List.mem_cons_of_mem _ (List.mem_cons_of_mem _ (List.mem_cons_of_mem _ (List.mem_cons_of_mem _ (List.mem_cons_of_mem _ (List.mem_cons_of_mem _ (List.mem_cons_of_mem _ (List.mem_cons_of_mem _ (List.mem_cons_of_mem _ (List.mem_cons_of_mem _ (List.mem_cons_of_mem _ (List.mem_cons_of_mem _ (List.mem_cons_of_mem _ (List.mem_cons_of_mem _ (List.mem_cons_of_mem _ (List.mem_cons_of_mem _ (List.mem_cons_of_mem _ (List.mem_cons_of_mem _ (List.mem_cons_self ..)))))))))))))))))))
          rcases List.mem_cons.1 hx with rfl | hx
          · exact List.mem_cons_of_mem _ (List.mem_cons_of_mem _ (List.mem_cons_of_mem _ (List.mem_cons_of_mem _ (List.mem_cons_of_mem _ (List.mem_cons_of_mem _ (List.mem_cons_of_mem _ (List.mem_cons_of_mem _ (List.mem_cons_of_mem _ (List.mem_cons_of_mem _ (List.mem_cons_of_mem _ (List.mem_cons_of_mem _ (List.mem_cons_of_mem _ (List.mem_cons_of_mem _ (List.mem_cons_of_mem _ (List.mem_cons_of_mem _ (List.mem_cons_of_mem _ (List.mem_cons_of_mem _ (List.mem_cons_of_mem _ (List.mem_cons_of_mem _ (List.mem_cons_self ..))))))))))))))))))))
          cases hx
        clear hk
        have hk := hk2
        clear hk2
        refine wp_seq_k fun K9 hK9 => ?_
        by_cases h0 : j = 0
        case pos =>
          refine region_plan3 (fun w' => Below w6.heap.size w6 w') [(0, 0), (1, 0), (2, 0), (3, 0), (4, 0), (5, 0), (6, 0), (7, 0), (8, 0), (9, 0), (10, 0), (11, 0), (12, 0), (13, 0)] rfl (by kernel_rfl) (by kernel_rfl) rfl (by intro c a d v w h; cases d <;> exact h) (fun _ _ h => h) ?_
          intro w6d hpW hbd
          clear hpW
          refine plan_k rfl hk (by decide) (by repeat' (first | exact far_nil _ | refine far_cons (by decide) ?_)) (v := .int .i64 ((j : Nat) : Int)) (fun o ho w' hS => do_move ho (hk.at (List.mem_cons_of_mem _ (List.mem_cons_self ..)))) ?_
          clear hk; intro a hk
          refine plan_k rfl hk (by decide) (by repeat' (first | exact far_nil _ | refine far_cons (by decide) ?_)) (v := .bool false) (fun o ho w' hS => (do_gtrF (n := 0) ho Try.underlying3 (hk.at (List.mem_cons_self ..)) rfl (by omega))) ?_
          clear hk; intro a hk
          refine plan_k rfl hk (by decide) (by repeat' (first | exact far_nil _ | refine far_cons (by decide) ?_)) (v := .bool false) (fun o ho w' hS => do_move ho (hk.at (List.mem_cons_self ..))) ?_
          clear hk; intro a hk
          refine plan_off2 rfl rfl (hk.at (List.mem_cons_self ..)) rfl hk (by decide) (by repeat' (first | exact far_nil _ | refine far_cons (by decide) ?_)) ?_
          clear hk; intro a hk
          refine plan_off2 rfl rfl (hk.at (List.mem_cons_of_mem _ (List.mem_cons_self ..))) rfl hk (by decide) (by repeat' (first | exact far_nil _ | refine far_cons (by decide) ?_)) ?_
          clear hk; intro a hk
          refine plan_off2 rfl rfl (hk.at (List.mem_cons_of_mem _ (List.mem_cons_of_mem _ (List.mem_cons_self ..)))) rfl hk (by decide) (by repeat' (first | exact far_nil _ | refine far_cons (by decide) ?_)) ?_
          clear hk; intro a hk
          refine plan_off2 rfl rfl (hk.at (List.mem_cons_of_mem _ (List.mem_cons_of_mem _ (List.mem_cons_of_mem _ (List.mem_cons_self ..))))) rfl hk (by decide) (by repeat' (first | exact far_nil _ | refine far_cons (by decide) ?_)) ?_
          clear hk; intro a hk
          refine plan_off2 rfl rfl (hk.at (List.mem_cons_of_mem _ (List.mem_cons_of_mem _ (List.mem_cons_of_mem _ (List.mem_cons_of_mem _ (List.mem_cons_self ..)))))) rfl hk (by decide) (by repeat' (first | exact far_nil _ | refine far_cons (by decide) ?_)) ?_
          clear hk; intro a hk
          refine plan_off2 rfl rfl (hk.at (List.mem_cons_of_mem _ (List.mem_cons_of_mem _ (List.mem_cons_of_mem _ (List.mem_cons_of_mem _ (List.mem_cons_of_mem _ (List.mem_cons_self ..))))))) rfl hk (by decide) (by repeat' (first | exact far_nil _ | refine far_cons (by decide) ?_)) ?_
          clear hk; intro a hk
          refine plan_off2 rfl rfl (hk.at (List.mem_cons_of_mem _ (List.mem_cons_of_mem _ (List.mem_cons_of_mem _ (List.mem_cons_of_mem _ (List.mem_cons_of_mem _ (List.mem_cons_of_mem _ (List.mem_cons_self ..)))))))) rfl hk (by decide) (by repeat' (first | exact far_nil _ | refine far_cons (by decide) ?_)) ?_
          clear hk; intro a hk
          refine plan_off2 rfl rfl (hk.at (List.mem_cons_of_mem _ (List.mem_cons_of_mem _ (List.mem_cons_of_mem _ (List.mem_cons_of_mem _ (List.mem_cons_of_mem _ (List.mem_cons_of_mem _ (List.mem_cons_of_mem _ (List.mem_cons_self ..))))))))) rfl hk (by decide) (by repeat' (first | exact far_nil _ | refine far_cons (by decide) ?_)) ?_
          clear hk; intro a hk
          refine plan_off2 rfl rfl (hk.at (List.mem_cons_of_mem _ (List.mem_cons_of_mem _ (List.mem_cons_of_mem _ (List.mem_cons_of_mem _ (List.mem_cons_of_mem _ (List.mem_cons_of_mem _ (List.mem_cons_of_mem _ (List.mem_cons_of_mem _ (List.mem_cons_self ..)))))))))) rfl hk (by decide) (by repeat' (first | exact far_nil _ | refine far_cons (by decide) ?_)) ?_
          clear hk; intro a hk
          refine plan_off2 rfl rfl (hk.at (List.mem_cons_of_mem _ (List.mem_cons_of_mem _ (List.mem_cons_of_mem _ (List.mem_cons_of_mem _ (List.mem_cons_of_mem _ (List.mem_cons_of_mem _ (List.mem_cons_of_mem _ (List.mem_cons_of_mem _ (List.mem_cons_of_mem _ (List.mem_cons_self ..))))))))))) rfl hk (by decide) (by repeat' (first | exact far_nil _ | refine far_cons (by decide) ?_)) ?_
          clear hk; intro a hk
          refine plan_k rfl hk (by decide) (by repeat' (first | exact far_nil _ | refine far_cons (by decide) ?_)) (v := .bool false) (fun o ho w' hS => do_pickF ho (hk.at (List.mem_cons_of_mem _ (List.mem_cons_of_mem _ (List.mem_cons_of_mem _ (List.mem_cons_of_mem _ (List.mem_cons_of_mem _ (List.mem_cons_of_mem _ (List.mem_cons_of_mem _ (List.mem_cons_of_mem _ (List.mem_cons_of_mem _ (List.mem_cons_of_mem _ (List.mem_cons_self ..)))))))))))) rfl) ?_
          clear hk; intro a hk
          refine plan_k0 ?_
          refine hK9 _ _ (wp_cond_false (hk.at (List.mem_cons_self ..)) (wp_skip ?_))
          clear hK9
          exact HEND _ _ (hk.sub (fun x hx => by simp at hx ⊢; rcases hx with rfl | rfl | rfl | rfl | rfl | rfl <;> simp)) (hb6.trans (hbd.mono hb6.size))
        case neg =>
          obtain ⟨i, rfl⟩ : ∃ i, j = i + 1 := ⟨j - 1, by omega⟩
          have ct2 := hct i (by rw [HN.out]; omega)
          have hzi := HZ.out _ (getD_in (k := i) (by rw [HN.out]; omega))
          obtain ⟨m2, hm2⟩ : ∃ m : Nat, zs.getD i 0 = (m : Int) := ⟨(zs.getD i 0).toNat, by omega⟩
          have hm248 : m2 < 281474976710656 := by omega
          obtain ⟨g2, c2, hc2, hci2, hrd2⟩ := hel i (by omega)
          have hmt2 : (zs.getD i 0).toNat = m2 := by rw [hm2]; rfl
          rw [hm2] at ct2
          rw [hmt2] at hrd2
          have cz2 := (hb6.cell (World.block_lt_of_cell? _ _ ct2)).trans ct2
          have cl2 := (hb6.cell (World.block_lt_of_cell? _ _ hc2)).trans hc2
          have r2 := hrd2.kept hb6
          clear ct2 hc2 hrd2 hmt2 h0 hct hel
          by_cases he : m = m2
          case neg =>
            refine region_plan3 (fun w' => Below w6.heap.size w6 w') [(0, 0), (1, 0), (2, 0), (3, 0), (4, 0), (5, 0), (6, 0), (7, 0), (8, 0), (9, 0), (10, 0), (11, 0), (12, 0), (13, 0)] rfl (by kernel_rfl) (by kernel_rfl) rfl (by intro c a d v w h; cases d <;> exact h) (fun _ _ h => h) ?_
            intro w6d hpW hbd
            clear hpW
            refine plan_k rfl hk (by decide) (by repeat' (first | exact far_nil _ | refine far_cons (by decide) ?_)) (v := .int .i64 ((i + 1 : Nat) : Int)) (fun o ho w' hS => do_move ho (hk.at (List.mem_cons_of_mem _ (List.mem_cons_self ..)))) ?_
            clear hk; intro a hk
            refine plan_k rfl hk (by decide) (by repeat' (first | exact far_nil _ | refine far_cons (by decide) ?_)) (v := .bool true) (fun o ho w' hS => (do_gtrT (n := 0) ho Try.underlying3 (hk.at (List.mem_cons_self ..)) rfl (by omega))) ?_
            clear hk; intro a hk
            refine plan_k rfl hk (by decide) (by repeat' (first | exact far_nil _ | refine far_cons (by decide) ?_)) (v := .bool true) (fun o ho w' hS => do_move ho (hk.at (List.mem_cons_self ..))) ?_
            clear hk; intro a hk
            refine plan_on2 rfl rfl (hk.at (List.mem_cons_self ..)) rfl hk (by decide) (by repeat' (first | exact far_nil _ | refine far_cons (by decide) ?_)) (v := .slice (some ⟨bt, ot, none⟩) k c0) (fun o ho w' hS => do_move ho (hk.at (List.mem_cons_of_mem _ (List.mem_cons_of_mem _ (List.mem_cons_of_mem _ (List.mem_cons_of_mem _ (List.mem_cons_of_mem _ (List.mem_cons_of_mem _ (List.mem_cons_of_mem _ (List.mem_cons_of_mem _ (List.mem_cons_of_mem _ (List.mem_cons_of_mem _ (List.mem_cons_self ..))))))))))))) ?_
            clear hk; intro a hk
            refine plan_on2 rfl rfl (hk.at (List.mem_cons_of_mem _ (List.mem_cons_self ..))) rfl hk (by decide) (by repeat' (first | exact far_nil _ | refine far_cons (by decide) ?_)) (v := .int .i64 ((i + 1 : Nat) : Int)) (fun o ho w' hS => do_move ho (hk.at (List.mem_cons_of_mem _ (List.mem_cons_of_mem _ (List.mem_cons_of_mem _ (List.mem_cons_of_mem _ (List.mem_cons_of_mem _ (List.mem_cons_self ..)))))))) ?_
            clear hk; intro a hk
            refine plan_on2 rfl rfl (hk.at (List.mem_cons_of_mem _ (List.mem_cons_of_mem _ (List.mem_cons_self ..)))) rfl hk (by decide) (by repeat' (first | exact far_nil _ | refine far_cons (by decide) ?_)) (v := .pointer (some ⟨bt, ot + (i + 1), none⟩)) (fun o ho w' hS => still_index (S := fun _ => True) ho Try.underlying22 (by kernel_rfl) (hk.at (List.mem_cons_of_mem _ (List.mem_cons_self ..))) (i + 1) (hk.at (List.mem_cons_self ..)) (by omega) _ trivial) ?_
            clear hk; intro a hk
            refine plan_on2 rfl rfl (hk.at (List.mem_cons_of_mem _ (List.mem_cons_of_mem _ (List.mem_cons_of_mem _ (List.mem_cons_self ..))))) rfl hk (by decide) (by repeat' (first | exact far_nil _ | refine far_cons (by decide) ?_)) (v := .int .u64 ((m : Nat) : Int)) (fun o ho w' hS => do_ldC ho Try.underlying24 rfl (hk.at (List.mem_cons_self ..)) (below_cell5 cz6 hS)) ?_
            clear hk; intro a hk
            refine plan_on2 rfl rfl (hk.at (List.mem_cons_of_mem _ (List.mem_cons_of_mem _ (List.mem_cons_of_mem _ (List.mem_cons_of_mem _ (List.mem_cons_self ..)))))) rfl hk (by decide) (by repeat' (first | exact far_nil _ | refine far_cons (by decide) ?_)) (v := .slice (some ⟨bt, ot, none⟩) k c0) (fun o ho w' hS => do_move ho (hk.at (List.mem_cons_of_mem _ (List.mem_cons_of_mem _ (List.mem_cons_of_mem _ (List.mem_cons_of_mem _ (List.mem_cons_of_mem _ (List.mem_cons_of_mem _ (List.mem_cons_of_mem _ (List.mem_cons_of_mem _ (List.mem_cons_of_mem _ (List.mem_cons_of_mem _ (List.mem_cons_of_mem _ (List.mem_cons_of_mem _ (List.mem_cons_of_mem _ (List.mem_cons_of_mem _ (List.mem_cons_self ..))))))))))))))))) ?_
            clear hk; intro a hk
            refine plan_on2 rfl rfl (hk.at (List.mem_cons_of_mem _ (List.mem_cons_of_mem _ (List.mem_cons_of_mem _ (List.mem_cons_of_mem _ (List.mem_cons_of_mem _ (List.mem_cons_self ..))))))) rfl hk (by decide) (by repeat' (first | exact far_nil _ | refine far_cons (by decide) ?_)) (v := .int .i64 ((i + 1 : Nat) : Int)) (fun o ho w' hS => do_move ho (hk.at (List.mem_cons_of_mem _ (List.mem_cons_of_mem _ (List.mem_cons_of_mem _ (List.mem_cons_of_mem _ (List.mem_cons_of_mem _ (List.mem_cons_of_mem _ (List.mem_cons_of_mem _ (List.mem_cons_of_mem _ (List.mem_cons_of_mem _ (List.mem_cons_self ..)))))))))))) ?_
            clear hk; intro a hk
            refine plan_on2 rfl rfl (hk.at (List.mem_cons_of_mem _ (List.mem_cons_of_mem _ (List.mem_cons_of_mem _ (List.mem_cons_of_mem _ (List.mem_cons_of_mem _ (List.mem_cons_of_mem _ (List.mem_cons_self ..)))))))) rfl hk (by decide) (by repeat' (first | exact far_nil _ | refine far_cons (by decide) ?_)) (v := .int .i64 ((i : Nat) : Int)) (fun o ho w' hS => (do_sub1 ho Try.underlying3 (hk.at (List.mem_cons_self ..)) (by omega))) ?_
            clear hk; intro a hk
            refine plan_on2 rfl rfl (hk.at (List.mem_cons_of_mem _ (List.mem_cons_of_mem _ (List.mem_cons_of_mem _ (List.mem_cons_of_mem _ (List.mem_cons_of_mem _ (List.mem_cons_of_mem _ (List.mem_cons_of_mem _ (List.mem_cons_self ..))))))))) rfl hk (by decide) (by repeat' (first | exact far_nil _ | refine far_cons (by decide) ?_)) (v := .pointer (some ⟨bt, ot + i, none⟩)) (fun o ho w' hS => still_index (S := fun _ => True) ho Try.underlying22 (by kernel_rfl) (hk.at (List.mem_cons_of_mem _ (List.mem_cons_of_mem _ (List.mem_cons_self ..)))) i (hk.at (List.mem_cons_self ..)) (by omega) _ trivial) ?_
            clear hk; intro a hk
            refine plan_on2 rfl rfl (hk.at (List.mem_cons_of_mem _ (List.mem_cons_of_mem _ (List.mem_cons_of_mem _ (List.mem_cons_of_mem _ (List.mem_cons_of_mem _ (List.mem_cons_of_mem _ (List.mem_cons_of_mem _ (List.mem_cons_of_mem _ (List.mem_cons_self ..)))))))))) rfl hk (by decide) (by repeat' (first | exact far_nil _ | refine far_cons (by decide) ?_)) (v := .int .u64 ((m2 : Nat) : Int)) (fun o ho w' hS => do_ldC ho Try.underlying24 rfl (hk.at (List.mem_cons_self ..)) (below_cell5 cz2 hS)) ?_
            clear hk; intro a hk
            refine plan_on2 rfl rfl (hk.at (List.mem_cons_of_mem _ (List.mem_cons_of_mem _ (List.mem_cons_of_mem _ (List.mem_cons_of_mem _ (List.mem_cons_of_mem _ (List.mem_cons_of_mem _ (List.mem_cons_of_mem _ (List.mem_cons_of_mem _ (List.mem_cons_of_mem _ (List.mem_cons_self ..))))))))))) rfl hk (by decide) (by repeat' (first | exact far_nil _ | refine far_cons (by decide) ?_)) (v := .bool false) (fun o ho w' hS => (do_eqlF ho Try.underlying24 (hk.at (List.mem_cons_of_mem _ (List.mem_cons_of_mem _ (List.mem_cons_of_mem _ (List.mem_cons_of_mem _ (List.mem_cons_of_mem _ (List.mem_cons_self ..))))))) (hk.at (List.mem_cons_self ..)) he)) ?_
            clear hk; intro a hk
            refine plan_k rfl hk (by decide) (by repeat' (first | exact far_nil _ | refine far_cons (by decide) ?_)) (v := .bool false) (fun o ho w' hS => do_pickT ho (hk.at (List.mem_cons_of_mem _ (List.mem_cons_of_mem _ (List.mem_cons_of_mem _ (List.mem_cons_of_mem _ (List.mem_cons_of_mem _ (List.mem_cons_of_mem _ (List.mem_cons_of_mem _ (List.mem_cons_of_mem _ (List.mem_cons_of_mem _ (List.mem_cons_of_mem _ (List.mem_cons_self ..)))))))))))) (hk.at (List.mem_cons_self ..))) ?_
            clear hk; intro a hk
            refine plan_k0 ?_
            refine hK9 _ _ (wp_cond_false (hk.at (List.mem_cons_self ..)) (wp_skip ?_))
            clear hK9
            exact HEND _ _ (hk.sub (fun x hx => by simp at hx ⊢; rcases hx with rfl | rfl | rfl | rfl | rfl | rfl <;> simp)) (hb6.trans (hbd.mono hb6.size))
          case pos =>
            refine region_plan3 (fun w' => Below w6.heap.size w6 w') [(0, 0), (1, 0), (2, 0), (3, 0), (4, 0), (5, 0), (6, 0), (7, 0), (8, 0), (9, 0), (10, 0), (11, 0), (12, 0), (13, 0)] rfl (by kernel_rfl) (by kernel_rfl) rfl (by intro c a d v w h; cases d <;> exact h) (fun _ _ h => h) ?_
            intro w6d hpW hbd
            clear hpW
            refine plan_k rfl hk (by decide) (by repeat' (first | exact far_nil _ | refine far_cons (by decide) ?_)) (v := .int .i64 ((i + 1 : Nat) : Int)) (fun o ho w' hS => do_move ho (hk.at (List.mem_cons_of_mem _ (List.mem_cons_self ..)))) ?_
            clear hk; intro a hk
            refine plan_k rfl hk (by decide) (by repeat' (first | exact far_nil _ | refine far_cons (by decide) ?_)) (v := .bool true) (fun o ho w' hS => (do_gtrT (n := 0) ho Try.underlying3 (hk.at (List.mem_cons_self ..)) rfl (by omega))) ?_
            clear hk; intro a hk
            refine plan_k rfl hk (by decide) (by repeat' (first | exact far_nil _ | refine far_cons (by decide) ?_)) (v := .bool true) (fun o ho w' hS => do_move ho (hk.at (List.mem_cons_self ..))) ?_
            clear hk; intro a hk
            refine plan_on2 rfl rfl (hk.at (List.mem_cons_self ..)) rfl hk (by decide) (by repeat' (first | exact far_nil _ | refine far_cons (by decide) ?_)) (v := .slice (some ⟨bt, ot, none⟩) k c0) (fun o ho w' hS => do_move ho (hk.at (List.mem_cons_of_mem _ (List.mem_cons_of_mem _ (List.mem_cons_of_mem _ (List.mem_cons_of_mem _ (List.mem_cons_of_mem _ (List.mem_cons_of_mem _ (List.mem_cons_of_mem _ (List.mem_cons_of_mem _ (List.mem_cons_of_mem _ (List.mem_cons_of_mem _ (List.mem_cons_self ..))))))))))))) ?_
            clear hk; intro a hk
            refine plan_on2 rfl rfl (hk.at (List.mem_cons_of_mem _ (List.mem_cons_self ..))) rfl hk (by decide) (by repeat' (first | exact far_nil _ | refine far_cons (by decide) ?_)) (v := .int .i64 ((i + 1 : Nat) : Int)) (fun o ho w' hS => do_move ho (hk.at (List.mem_cons_of_mem _ (List.mem_cons_of_mem _ (List.mem_cons_of_mem _ (List.mem_cons_of_mem _ (List.mem_cons_of_mem _ (List.mem_cons_self ..)))))))) ?_
            clear hk; intro a hk
            refine plan_on2 rfl rfl (hk.at (List.mem_cons_of_mem _ (List.mem_cons_of_mem _ (List.mem_cons_self ..)))) rfl hk (by decide) (by repeat' (first | exact far_nil _ | refine far_cons (by decide) ?_)) (v := .pointer (some ⟨bt, ot + (i + 1), none⟩)) (fun o ho w' hS => still_index (S := fun _ => True) ho Try.underlying22 (by kernel_rfl) (hk.at (List.mem_cons_of_mem _ (List.mem_cons_self ..))) (i + 1) (hk.at (List.mem_cons_self ..)) (by omega) _ trivial) ?_
            clear hk; intro a hk
            refine plan_on2 rfl rfl (hk.at (List.mem_cons_of_mem _ (List.mem_cons_of_mem _ (List.mem_cons_of_mem _ (List.mem_cons_self ..))))) rfl hk (by decide) (by repeat' (first | exact far_nil _ | refine far_cons (by decide) ?_)) (v := .int .u64 ((m : Nat) : Int)) (fun o ho w' hS => do_ldC ho Try.underlying24 rfl (hk.at (List.mem_cons_self ..)) (below_cell5 cz6 hS)) ?_
            clear hk; intro a hk
            refine plan_on2 rfl rfl (hk.at (List.mem_cons_of_mem _ (List.mem_cons_of_mem _ (List.mem_cons_of_mem _ (List.mem_cons_of_mem _ (List.mem_cons_self ..)))))) rfl hk (by decide) (by repeat' (first | exact far_nil _ | refine far_cons (by decide) ?_)) (v := .slice (some ⟨bt, ot, none⟩) k c0) (fun o ho w' hS => do_move ho (hk.at (List.mem_cons_of_mem _ (List.mem_cons_of_mem _ (List.mem_cons_of_mem _ (List.mem_cons_of_mem _ (List.mem_cons_of_mem _ (List.mem_cons_of_mem _ (List.mem_cons_of_mem _ (List.mem_cons_of_mem _ (List.mem_cons_of_mem _ (List.mem_cons_of_mem _ (List.mem_cons_of_mem _ (List.mem_cons_of_mem _ (List.mem_cons_of_mem _ (List.mem_cons_of_mem _ (List.mem_cons_self ..))))))))))))))))) ?_
            clear hk; intro a hk
            refine plan_on2 rfl rfl (hk.at (List.mem_cons_of_mem _ (List.mem_cons_of_mem _ (List.mem_cons_of_mem _ (List.mem_cons_of_mem _ (List.mem_cons_of_mem _ (List.mem_cons_self ..))))))) rfl hk (by decide) (by repeat' (first | exact far_nil _ | refine far_cons (by decide) ?_)) (v := .int .i64 ((i + 1 : Nat) : Int)) (fun o ho w' hS => do_move ho (hk.at (List.mem_cons_of_mem _ (List.mem_cons_of_mem _ (List.mem_cons_of_mem _ (List.mem_cons_of_mem _ (List.mem_cons_of_mem _ (List.mem_cons_of_mem _ (List.mem_cons_of_mem _ (List.mem_cons_of_mem _ (List.mem_cons_of_mem _ (List.mem_cons_self ..)))))))))))) ?_
            clear hk; intro a hk
            refine plan_on2 rfl rfl (hk.at (List.mem_cons_of_mem _ (List.mem_cons_of_mem _ (List.mem_cons_of_mem _ (List.mem_cons_of_mem _ (List.mem_cons_of_mem _ (List.mem_cons_of_mem _ (List.mem_cons_self ..)))))))) rfl hk (by decide) (by repeat' (first | exact far_nil _ | refine far_cons (by decide) ?_)) (v := .int .i64 ((i : Nat) : Int)) (fun o ho w' hS => (do_sub1 ho Try.underlying3 (hk.at (List.mem_cons_self ..)) (by omega))) ?_
            clear hk; intro a hk
            refine plan_on2 rfl rfl (hk.at (List.mem_cons_of_mem _ (List.mem_cons_of_mem _ (List.mem_cons_of_mem _ (List.mem_cons_of_mem _ (List.mem_cons_of_mem _ (List.mem_cons_of_mem _ (List.mem_cons_of_mem _ (List.mem_cons_self ..))))))))) rfl hk (by decide) (by repeat' (first | exact far_nil _ | refine far_cons (by decide) ?_)) (v := .pointer (some ⟨bt, ot + i, none⟩)) (fun o ho w' hS => still_index (S := fun _ => True) ho Try.underlying22 (by kernel_rfl) (hk.at (List.mem_cons_of_mem _ (List.mem_cons_of_mem _ (List.mem_cons_self ..)))) i (hk.at (List.mem_cons_self ..)) (by omega) _ trivial) ?_
            clear hk; intro a hk
            refine plan_on2 rfl rfl (hk.at (List.mem_cons_of_mem _ (List.mem_cons_of_mem _ (List.mem_cons_of_mem _ (List.mem_cons_of_mem _ (List.mem_cons_of_mem _ (List.mem_cons_of_mem _ (List.mem_cons_of_mem _ (List.mem_cons_of_mem _ (List.mem_cons_self ..)))))))))) rfl hk (by decide) (by repeat' (first | exact far_nil _ | refine far_cons (by decide) ?_)) (v := .int .u64 ((m2 : Nat) : Int)) (fun o ho w' hS => do_ldC ho Try.underlying24 rfl (hk.at (List.mem_cons_self ..)) (below_cell5 cz2 hS)) ?_
            clear hk; intro a hk
            refine plan_on2 rfl rfl (hk.at (List.mem_cons_of_mem _ (List.mem_cons_of_mem _ (List.mem_cons_of_mem _ (List.mem_cons_of_mem _ (List.mem_cons_of_mem _ (List.mem_cons_of_mem _ (List.mem_cons_of_mem _ (List.mem_cons_of_mem _ (List.mem_cons_of_mem _ (List.mem_cons_self ..))))))))))) rfl hk (by decide) (by repeat' (first | exact far_nil _ | refine far_cons (by decide) ?_)) (v := .bool true) (fun o ho w' hS => (do_eqlT ho Try.underlying24 (hk.at (List.mem_cons_of_mem _ (List.mem_cons_of_mem _ (List.mem_cons_of_mem _ (List.mem_cons_of_mem _ (List.mem_cons_of_mem _ (List.mem_cons_self ..))))))) (hk.at (List.mem_cons_self ..)) he)) ?_
            clear hk; intro a hk
            refine plan_k rfl hk (by decide) (by repeat' (first | exact far_nil _ | refine far_cons (by decide) ?_)) (v := .bool true) (fun o ho w' hS => do_pickT ho (hk.at (List.mem_cons_of_mem _ (List.mem_cons_of_mem _ (List.mem_cons_of_mem _ (List.mem_cons_of_mem _ (List.mem_cons_of_mem _ (List.mem_cons_of_mem _ (List.mem_cons_of_mem _ (List.mem_cons_of_mem _ (List.mem_cons_of_mem _ (List.mem_cons_of_mem _ (List.mem_cons_self ..)))))))))))) (hk.at (List.mem_cons_self ..))) ?_
            clear hk; intro a hk
            refine plan_k0 ?_
            refine hK9 _ _ (wp_cond_true (hk.at (List.mem_cons_self ..)) ?_)
            clear hK9
            have hb7 := hb6.trans (hbd.mono hb6.size)
            have cl7 := (hbd.cell (World.block_lt_of_cell? _ _ cl2)).trans cl2
            have r7 := r6.kept hbd
            have r72 := r2.kept hbd
            clear cz6 cl6 r6 hbd hb6 cz2 cl2 r2
            generalize w6d = w7 at *
            subst he
            have hfo := HF.out i (by rw [HL.out]; exact hlt) (by rw [hm, hm2])
            have hE1 := es_lt HB.out i (by rw [HL.out]; omega)
            have hE2 := es_lt HB.out (i + 1) (by rw [HL.out]; omega)
            generalize Es.getD (i + 1) 0 = E2 at *
            generalize Es.getD i 0 = E1 at *
            have hk2 : Keeps 107 ([(12, .slice (some ⟨gi, 0, none⟩) 16 ci), (11, .int .i64 ((i + 1 : Nat) : Int)), (56, .int .i64 ((i + 1 : Nat) : Int)), (55, .int .i64 ((k : Nat) : Int)), (54, .slice (some ⟨b, off, none⟩) k oc), (9, .slice (some ⟨b, off, none⟩) k oc), (2, .int .u64 ((inc : Nat) : Int)), (0, .slice (some ⟨bt, ot, none⟩) k c0)]) a := by
              refine ⟨hk.1, hk.2.1, fun x hx => hk.2.2 x ?_⟩
              rcases List.mem_cons.1 hx with rfl | hx
              · exact List.mem_cons_of_mem _ (List.mem_cons_of_mem _ (List.mem_cons_of_mem _ (List.mem_cons_of_mem _ (List.mem_cons_of_mem _ (List.mem_cons_of_mem _ (List.mem_cons_of_mem _ (List.mem_cons_of_mem _ (List.mem_cons_of_mem _ (List.mem_cons_of_mem _ (List.mem_cons_of_mem _ (List.mem_cons_of_mem _ (List.mem_cons_of_mem _ (List.mem_cons_of_mem _ (List.mem_cons_self ..))))))))))))))
              rcases List.mem_cons.1 hx with rfl | hx
              · exact List.mem_cons_of_mem _ (List.mem_cons_of_mem _ (List.mem_cons_of_mem _ (List.mem_cons_of_mem _ (List.mem_cons_of_mem _ (List.mem_cons_of_mem _ (List.mem_cons_of_mem _ (List.mem_cons_of_mem _ (List.mem_cons_of_mem _ (List.mem_cons_of_mem _ (List.mem_cons_of_mem _ (List.mem_cons_of_mem _ (List.mem_cons_of_mem _ (List.mem_cons_of_mem _ (List.mem_cons_of_mem _ (List.mem_cons_self ..)))))))))))))))
              rcases List.mem_cons.1 hx with rfl | hx
              · exact List.mem_cons_of_mem _ (List.mem_cons_of_mem _ (List.mem_cons_of_mem _ (List.mem_cons_of_mem _ (List.mem_cons_of_mem _ (List.mem_cons_of_mem _ (List.mem_cons_of_mem _ (List.mem_cons_of_mem _ (List.mem_cons_of_mem _ (List.mem_cons_of_mem _ (List.mem_cons_of_mem _ (List.mem_cons_of_mem _ (List.mem_cons_of_mem _ (List.mem_cons_of_mem _ (List.mem_cons_of_mem _ (List.mem_cons_of_mem _ (List.mem_cons_self ..))))))))))))))))
              rcases List.mem_cons.1 hx with rfl | hx
              · exact List.mem_cons_of_mem _ (List.mem_cons_of_mem _ (List.mem_cons_of_mem _ (List.mem_cons_of_mem _ (List.mem_cons_of_mem _ (List.mem_cons_of_mem _ (List.mem_cons_of_mem _ (List.mem_cons_of_mem _ (List.mem_cons_of_mem _ (List.mem_cons_of_mem _ (List.mem_cons_of_mem _ (List.mem_cons_of_mem _ (List.mem_cons_of_mem _ (List.mem_cons_of_mem _ (List.mem_cons_of_mem _ (List.mem_cons_of_mem _ (List.mem_cons_of_mem _ (List.mem_cons_self ..)))))))))))))))))
              rcases List.mem_cons.1 hx with rfl | hx
              · exact List.mem_cons_of_mem _ (List.mem_cons_of_mem _ (List.mem_cons_of_mem _ (List.mem_cons_of_mem _ (List.mem_cons_of_mem _ (List.mem_cons_of_mem _ (List.mem_cons_of_mem _ (List.mem_cons_of_mem _ (List.mem_cons_of_mem _ (List.mem_cons_of_mem _ (List.mem_cons_of_mem _ (List.mem_cons_of_mem _ (List.mem_cons_of_mem _ (List.mem_cons_of_mem _ (List.mem_cons_of_mem _ (List.mem_cons_of_mem _ (List.mem_cons_of_mem _ (List.mem_cons_of_mem _ (List.mem_cons_self ..))))))))))))))))))
              rcases List.mem_cons.1 hx with rfl | hx
              · exact List.mem_cons_of_mem _ (List.mem_cons_of_mem _ (List.mem_cons_of_mem _ (List.mem_cons_of_mem _ (List.mem_cons_of_mem _ (List.mem_cons_of_mem _ (List.mem_cons_of_mem _ (List.mem_cons_of_mem _ (List.mem_cons_of_mem _ (List.mem_cons_of_mem _ (List.mem_cons_of_mem _ (List.mem_cons_of_mem _ (List.mem_cons_of_mem _ (List.mem_cons_of_mem _ (List.mem_cons_of_mem _ (List.mem_cons_of_mem _ (List.mem_cons_of_mem _ (List.mem_cons_of_mem _ (List.mem_cons_of_mem _ (List.mem_cons_self ..)))))))))))))))))))
              rcases List.mem_cons.1 hx with rfl | hx
              · exact List.mem_cons_of_mem _ (List.mem_cons_of_mem _ (List.mem_cons_of_mem _ (List.mem_cons_of_mem _ (List.mem_cons_of_mem _ (List.mem_cons_of_mem _ (List.mem_cons_of_mem _ (List.mem_cons_of_mem _ (List.mem_cons_of_mem _ (List.mem_cons_of_mem _ (List.mem_cons_of_mem _ (List.mem_cons_of_mem _ (List.mem_cons_of_mem _ (List.mem_cons_of_mem _ (List.mem_cons_of_mem _ (List.mem_cons_of_mem _ (List.mem_cons_of_mem _ (List.mem_cons_of_mem _ (List.mem_cons_of_mem _ (List.mem_cons_of_mem _ (List.mem_cons_self ..))))))))))))))))))))
              rcases List.mem_cons.1 hx with rfl | hx
              · exact List.mem_cons_of_mem _ (List.mem_cons_of_mem _ (List.mem_cons_of_mem _ (List.mem_cons_of_mem _ (List.mem_cons_of_mem _ (List.mem_cons_of_mem _ (List.mem_cons_of_mem _ (List.mem_cons_of_mem _ (List.mem_cons_of_mem _ (List.mem_cons_of_mem _ (List.mem_cons_of_mem _ (List.mem_cons_of_mem _ (List.mem_cons_of_mem _ (List.mem_cons_of_mem _ (List.mem_cons_of_mem _ (List.mem_cons_of_mem _ (List.mem_cons_of_mem _ (List.mem_cons_of_mem _ (List.mem_cons_of_mem _ (List.mem_cons_of_mem _ (List.mem_cons_of_mem _ (List.mem_cons_self ..)))))))))))))))))))))
              cases hx
            clear hk
            have hk := hk2
            clear hk2
            refine wp_seq_k fun K9 hK9 => ?_
            refine region_plan2 (fun w' => Below w7.heap.size w7 w') [(0, 0), (1, 0), (2, 0), (3, 0), (4, 0), (5, 0), (6, 0), (7, 0), (8, 1), (9, 0)] rfl (by kernel_rfl) (by kernel_rfl) rfl (by intro c a d v w h; cases d <;> exact h) (fun _ _ h => h) ?_
            intro OPS w7d hpW hbd
            clear hpW
            refine plan_k rfl hk (by decide) (by repeat' (first | exact far_nil _ | refine far_cons (by decide) ?_)) (v := .slice (some ⟨b, off, none⟩) k oc) (fun o ho w' hS => do_move ho (hk.at (List.mem_cons_of_mem _ (List.mem_cons_of_mem _ (List.mem_cons_of_mem _ (List.mem_cons_of_mem _ (List.mem_cons_of_mem _ (List.mem_cons_self ..)))))))) ?_
            clear hk; intro a hk
            refine plan_k rfl hk (by decide) (by repeat' (first | exact far_nil _ | refine far_cons (by decide) ?_)) (v := .int .i64 ((i + 1 : Nat) : Int)) (fun o ho w' hS => do_move ho (hk.at (List.mem_cons_of_mem _ (List.mem_cons_of_mem _ (List.mem_cons_self ..))))) ?_
            clear hk; intro a hk
            refine plan_k rfl hk (by decide) (by repeat' (first | exact far_nil _ | refine far_cons (by decide) ?_)) (v := .int .i64 ((i : Nat) : Int)) (fun o ho w' hS => (do_sub1 ho Try.underlying3 (hk.at (List.mem_cons_self ..)) (by omega))) ?_
            clear hk; intro a hk
            refine plan_k rfl hk (by decide) (by repeat' (first | exact far_nil _ | refine far_cons (by decide) ?_)) (v := .pointer (some ⟨b, off + i, none⟩)) (fun o ho w' hS => still_index (S := fun _ => True) ho Try.underlying25 (by kernel_rfl) (hk.at (List.mem_cons_of_mem _ (List.mem_cons_of_mem _ (List.mem_cons_self ..)))) i (hk.at (List.mem_cons_self ..)) (by omega) _ trivial) ?_
            clear hk; intro a hk
            refine plan_k rfl hk (by decide) (by repeat' (first | exact far_nil _ | refine far_cons (by decide) ?_)) (v := .slice (some ⟨g2, 0, none⟩) 16 c2) (fun o ho w' hS => do_ldC ho Try.underlying28 rfl (hk.at (List.mem_cons_self ..)) (below_cell5 cl7 hS)) ?_
            clear hk; intro a hk
            refine plan_k rfl hk (by decide) (by repeat' (first | exact far_nil _ | refine far_cons (by decide) ?_)) (v := .slice (some ⟨g2, 6, none⟩) 10 (c2 - 6)) (fun o ho w' hS => do_six ho Try.underlying28 (by kernel_rfl) (hk.at (List.mem_cons_self ..)) (by omega)) ?_
            clear hk; intro a hk
            refine plan_k rfl hk (by decide) (by repeat' (first | exact far_nil _ | refine far_cons (by decide) ?_)) (v := .slice (some ⟨gi, 0, none⟩) 16 ci) (fun o ho w' hS => do_move ho (hk.at (List.mem_cons_of_mem _ (List.mem_cons_of_mem _ (List.mem_cons_of_mem _ (List.mem_cons_of_mem _ (List.mem_cons_of_mem _ (List.mem_cons_of_mem _ (List.mem_cons_self ..))))))))) ?_
            clear hk; intro a hk
            refine plan_k rfl hk (by decide) (by repeat' (first | exact far_nil _ | refine far_cons (by decide) ?_)) (v := .slice (some ⟨gi, 6, none⟩) 10 (ci - 6)) (fun o ho w' hS => do_six ho Try.underlying28 (by kernel_rfl) (hk.at (List.mem_cons_self ..)) (by omega)) ?_
            clear hk; intro a hk
            refine plan_kw2 rfl fun o ho hd hgd => ?_
            refine wp_call hgd (do_call2 ho (hk.at (List.mem_cons_of_mem _ (List.mem_cons_of_mem _ (List.mem_cons_self ..)))) (hk.at (List.mem_cons_self ..)) (df_enter _ _)) (difference_ok (some ⟨g2, 6, none⟩) (some ⟨gi, 6, none⟩) (be 10 E1) (be 10 E2) 10 (c2 - 6) (ci - 6) _ (ten_rd (r72.kept hbd) (be_length 6 m)) (ten_rd (r7.kept hbd) (be_length 6 m)) (be_length 10 E1) (be_length 10 E2) (by decide) (by rw [num_be10 _ hE1, num_be10 _ hE2]; omega) (by rw [num_be10 _ hE1, num_be10 _ hE2]; omega)) ?_
            rintro e w8 ⟨rfl, n8, rfl⟩
            rw [num_be10 _ hE1, num_be10 _ hE2]
            have hb78 := below_drewN hbd n8
            refine ⟨_, rfl, ?_⟩
            rw [hd]
            refine keep_k (v := .int .i64 ((E2 - E1 : Nat) : Int)) hk (by decide) (by repeat' (first | exact far_nil _ | refine far_cons (by decide) ?_)) ?_
            clear hk; intro a hk
            refine ⟨hb78, ?_⟩
            refine plan_k rfl hk (by decide) (by repeat' (first | exact far_nil _ | refine far_cons (by decide) ?_)) (v := .int .i64 ((E2 - E1 : Nat) : Int)) (fun o ho w' hS => do_assign ho (hk.at (List.mem_cons_self ..))) ?_
            clear hk; intro a hk
            refine plan_k0 ?_
            refine hK9 _ _ ?_
            clear hK9
            have hk2 : Keeps 107 ([(13, .int .i64 ((E2 - E1 : Nat) : Int)), (56, .int .i64 ((i + 1 : Nat) : Int)), (55, .int .i64 ((k : Nat) : Int)), (54, .slice (some ⟨b, off, none⟩) k oc), (9, .slice (some ⟨b, off, none⟩) k oc), (2, .int .u64 ((inc : Nat) : Int)), (0, .slice (some ⟨bt, ot, none⟩) k c0)]) a := by
              refine ⟨hk.1, hk.2.1, fun x hx => hk.2.2 x ?_⟩
              rcases List.mem_cons.1 hx with rfl | hx
              · exact List.mem_cons_self ..
              rcases List.mem_cons.1 hx with rfl | hx
              · exact List.mem_cons_of_mem _ (List.mem_cons_of_mem _ (List.mem_cons_of_mem _ (List.mem_cons_of_mem _ (List.mem_cons_of_mem _ (List.mem_cons_of_mem _ (List.mem_cons_of_mem _ (List.mem_cons_of_mem _ (List.mem_cons_of_mem _ (List.mem_cons_of_mem _ (List.mem_cons_of_mem _ (List.mem_cons_of_mem _ (List.mem_cons_self ..))))))))))))
              rcases List.mem_cons.1 hx with rfl | hx
              · exact List.mem_cons_of_mem _ (List.mem_cons_of_mem _ (List.mem_cons_of_mem _ (List.mem_cons_of_mem _ (List.mem_cons_of_mem _ (List.mem_cons_of_mem _ (List.mem_cons_of_mem _ (List.mem_cons_of_mem _ (List.mem_cons_of_mem _ (List.mem_cons_of_mem _ (List.mem_cons_of_mem _ (List.mem_cons_of_mem _ (List.mem_cons_of_mem _ (List.mem_cons_self ..)))))))))))))
              rcases List.mem_cons.1 hx with rfl | hx
              · exact List.mem_cons_of_mem _ (List.mem_cons_of_mem _ (List.mem_cons_of_mem _ (List.mem_cons_of_mem _ (List.mem_cons_of_mem _ (List.mem_cons_of_mem _ (List.mem_cons_of_mem _ (List.mem_cons_of_mem _ (List.mem_cons_of_mem _ (List.mem_cons_of_mem _ (List.mem_cons_of_mem _ (List.mem_cons_of_mem _ (List.mem_cons_of_mem _ (List.mem_cons_of_mem _ (List.mem_cons_self ..))))))))))))))
              rcases List.mem_cons.1 hx with rfl | hx
              · exact List.mem_cons_of_mem _ (List.mem_cons_of_mem _ (List.mem_cons_of_mem _ (List.mem_cons_of_mem _ (List.mem_cons_of_mem _ (List.mem_cons_of_mem _ (List.mem_cons_of_mem _ (List.mem_cons_of_mem _ (List.mem_cons_of_mem _ (List.mem_cons_of_mem _ (List.mem_cons_of_mem _ (List.mem_cons_of_mem _ (List.mem_cons_of_mem _ (List.mem_cons_of_mem _ (List.mem_cons_of_mem _ (List.mem_cons_self ..)))))))))))))))
              rcases List.mem_cons.1 hx with rfl | hx
              · exact List.mem_cons_of_mem _ (List.mem_cons_of_mem _ (List.mem_cons_of_mem _ (List.mem_cons_of_mem _ (List.mem_cons_of_mem _ (List.mem_cons_of_mem _ (List.mem_cons_of_mem _ (List.mem_cons_of_mem _ (List.mem_cons_of_mem _ (List.mem_cons_of_mem _ (List.mem_cons_of_mem _ (List.mem_cons_of_mem _ (List.mem_cons_of_mem _ (List.mem_cons_of_mem _ (List.mem_cons_of_mem _ (List.mem_cons_of_mem _ (List.mem_cons_self ..))))))))))))))))
              rcases List.mem_cons.1 hx with rfl | hx
              · exact List.mem_cons_of_mem _ (List.mem_cons_of_mem _ (List.mem_cons_of_mem _ (List.mem_cons_of_mem _ (List.mem_cons_of_mem _ (List.mem_cons_of_mem _ (List.mem_cons_of_mem _ (List.mem_cons_of_mem _ (List.mem_cons_of_mem _ (List.mem_cons_of_mem _ (List.mem_cons_of_mem _ (List.mem_cons_of_mem _ (List.mem_cons_of_mem _ (List.mem_cons_of_mem _ (List.mem_cons_of_mem _ (List.mem_cons_of_mem _ (List.mem_cons_of_mem _ (List.mem_cons_self ..)))))))))))))))))
              cases hx
            clear hk
            have hk := hk2
            clear hk2
            refine wp_seq_k fun K9 hK9 => ?_
            refine wp_region_lit ?_
            refine list_k rfl rfl hk (by decide) (by repeat' (first | exact far_nil _ | refine far_cons (by decide) ?_)) (v := .int .i64 ((E2 - E1 : Nat) : Int)) (do_move rfl (hk.at (List.mem_cons_self ..))) ?_
            clear hk; intro a hk
            refine list_k rfl rfl hk (by decide) (by repeat' (first | exact far_nil _ | refine far_cons (by decide) ?_)) (v := .bool false) ((do_lssF (n := 1) rfl Try.underlying3 (hk.at (List.mem_cons_self ..)) rfl (by omega))) ?_
            clear hk; intro a hk
            refine list_k rfl rfl hk (by decide) (by repeat' (first | exact far_nil _ | refine far_cons (by decide) ?_)) (v := .bool false) (do_move rfl (hk.at (List.mem_cons_self ..))) ?_
            clear hk; intro a hk
            refine list_on rfl rfl rfl (hk.at (List.mem_cons_self ..)) rfl hk (by decide) (by repeat' (first | exact far_nil _ | refine far_cons (by decide) ?_)) (v := .int .i64 ((E2 - E1 : Nat) : Int)) (do_move rfl (hk.at (List.mem_cons_of_mem _ (List.mem_cons_of_mem _ (List.mem_cons_of_mem _ (List.mem_cons_self ..)))))) ?_
            clear hk; intro a hk
            refine list_on rfl rfl rfl (hk.at (List.mem_cons_of_mem _ (List.mem_cons_self ..))) rfl hk (by decide) (by repeat' (first | exact far_nil _ | refine far_cons (by decide) ?_)) (v := .int .u64 ((E2 - E1 : Nat) : Int)) (do_cvtN rfl Try.underlying3 Try.underlying24 (hk.at (List.mem_cons_self ..)) (by rw [IntKind.wrap_u64]; omega)) ?_
            clear hk; intro a hk
            refine list_on rfl rfl rfl (hk.at (List.mem_cons_of_mem _ (List.mem_cons_of_mem _ (List.mem_cons_self ..)))) rfl hk (by decide) (by repeat' (first | exact far_nil _ | refine far_cons (by decide) ?_)) (v := .int .u64 ((inc : Nat) : Int)) (do_move rfl (hk.at (List.mem_cons_of_mem _ (List.mem_cons_of_mem _ (List.mem_cons_of_mem _ (List.mem_cons_of_mem _ (List.mem_cons_of_mem _ (List.mem_cons_of_mem _ (List.mem_cons_of_mem _ (List.mem_cons_of_mem _ (List.mem_cons_of_mem _ (List.mem_cons_of_mem _ (List.mem_cons_self ..))))))))))))) ?_
            clear hk; intro a hk
            refine list_on rfl rfl rfl (hk.at (List.mem_cons_of_mem _ (List.mem_cons_of_mem _ (List.mem_cons_of_mem _ (List.mem_cons_self ..))))) rfl hk (by decide) (by repeat' (first | exact far_nil _ | refine far_cons (by decide) ?_)) (v := .bool false) ((do_gtrF rfl Try.underlying24 (hk.at (List.mem_cons_of_mem _ (List.mem_cons_self ..))) (hk.at (List.mem_cons_self ..)) (by omega))) ?_
            clear hk; intro a hk
            refine list_k rfl rfl hk (by decide) (by repeat' (first | exact far_nil _ | refine far_cons (by decide) ?_)) (v := .bool false) (do_pickF rfl (hk.at (List.mem_cons_of_mem _ (List.mem_cons_of_mem _ (List.mem_cons_of_mem _ (List.mem_cons_of_mem _ (List.mem_cons_self ..)))))) (hk.at (List.mem_cons_self ..))) ?_
            clear hk; intro a hk
            refine hK9 _ _ (wp_cond_false (hk.at (List.mem_cons_self ..)) (wp_skip ?_))
            clear hK9
            exact HEND _ _ (hk.sub (fun x hx => by simp at hx ⊢; rcases hx with rfl | rfl | rfl | rfl | rfl | rfl <;> simp)) (hb7.trans (hb78.mono hb7.size))

/-- What the law computes: true. -/
theorem ulidMonotone_walk (a0 : Option Addr) (x0 : List Int) (c0 : Nat) (a1 a2 : Int) (w : World) (h0 : RdI .u64 w a0 x0) (hc : x0.length ≤ c0) (hc' : c0 ≤ 9223372036854775807) (w1 : (Lit.int .u32 a1).wf = true) (w2 : (Lit.int .u64 a2).wf = true) :
    Calls Try.prog 3 #[.slice a0 x0.length c0, .int .u32 a1, .int .u64 a2] w fun e w' => e = .returned (.bool true) ∧ Below w.heap.size w w' := by
  have hb := Below.refl w.heap.size w
  obtain ⟨seed, rfl⟩ : ∃ n : Nat, a1 = n := ⟨a1.toNat, by simp [Lit.wf, IntKind.min, IntKind.max, IntKind.signed, IntKind.bits] at w1; omega⟩
  obtain ⟨inc, rfl⟩ : ∃ n : Nat, a2 = n := ⟨a2.toNat, by simp [Lit.wf, IntKind.min, IntKind.max, IntKind.signed, IntKind.bits] at w2; omega⟩
  have hs : seed < 4294967296 := by simp [Lit.wf, IntKind.min, IntKind.max, IntKind.signed, IntKind.bits] at w1; omega
  clear w1 w2
  by_cases hbig : 2147483647 < x0.length
  · go_enter Try.func3, Try.ntmps3
    go_wp2
    go_ret
    exact ⟨rfl, hb⟩
  by_cases h20 : 20 < x0.length
  · go_enter Try.func3, Try.ntmps3
    go_wp2
    go_ret
    exact ⟨rfl, hb⟩
  by_cases hi0 : inc < 1
  · go_enter Try.func3, Try.ntmps3
    go_wp2
    go_ret
    exact ⟨rfl, hb⟩
  by_cases hi : 1099511627776 < inc
  · go_enter Try.func3, Try.ntmps3
    go_wp2
    go_ret
    exact ⟨rfl, hb⟩
  exact ulidMonotone_main a0 x0 x0.length c0 seed inc w h0 rfl (by omega) hs (by omega) (by omega)
end Go.Proofs.Ytcojcohipmoopaa
