/- The law FnUuidSign returns true, and turns nothing that was there. -/
import Derived.Test.YtdjppileeeljnaaDoorUuidRW
import Derived.Test.YtdjppileeeljnaaDoorUpLow
import Derived.Test.YtdjppileeeljnaaDoorArgs
namespace Go.Proofs.YtdjppileeeljnaaDoor
open Go.RowKit
set_option linter.unusedVariables false
set_option linter.unusedSimpArgs false

theorem wp_to_string_w {P : Program} {ops : Array Oper} {rest : List Oper} {o : Oper} {a : Act} {w : World} {Q : Exit → Act → World → Prop} (hgd : Region.wanted o (yielded ops a.tmps) = true) {src dst e : TypeId} {x : Operand} (ho : o.op = .convert src dst x) (hs : P.underlying src = some (.slice e)) (he : P.underlying e = some (.int .u8)) (hd : P.underlying dst = some .string)
    {ad : Option Addr} {n cap : Nat} (hx : a.eval x = .slice ad n cap) {bs : List UInt8} (hr : Rd w ad bs) (hn : bs.length = n)
    (h : wpList P ops Q rest (a.put o.dst (str bs)) w) : wpList P ops Q (o :: rest) a w := by
  subst hn
  refine wpList_wanted hgd fun K hK => ?_
  unfold Oper.wp execOp
  simp only [ho, hx, Sem.run_bind, run_str hs he hd hr, Result.andThen_ok]
  exact hK _ _ h
theorem std_dashAt {p : List UInt8} (hp : stdOk p = true) : ∀ i, i < 36 → ((B p i : Int) == 45) = isDash i := by
  rw [std_parts] at hp
  simp only [Bool.and_eq_true, beq_iff_eq, and_true] at hp
  obtain ⟨⟨⟨⟨e8, e13⟩, e18⟩, e23⟩, ⟨e0, e1⟩, ⟨e2, e3⟩, ⟨e4, e5⟩, ⟨e6, e7⟩, ⟨e9, e10⟩, ⟨e11, e12⟩, ⟨e14, e15⟩, ⟨e16, e17⟩, ⟨e19, e20⟩, ⟨e21, e22⟩, ⟨e24, e25⟩, ⟨e26, e27⟩, ⟨e28, e29⟩, ⟨e30, e31⟩, ⟨e32, e33⟩, ⟨e34, e35⟩⟩ := hp
  have no : ∀ c : Nat, okH c = true → ((c : Int) == 45) = false := by
    intro c h
    rw [beq_eq_false_iff_ne]
    intro h'
    obtain rfl : c = 45 := by omega
    revert h
    decide
  refine lt36 (lt16 ?_) (lt16 ?_) ?_ <;> (repeat' apply And.intro) <;> first
    | (exact no _ (by assumption))
    | (show ((B p 8 : Int) == 45) = true; rw [e8]; rfl)
    | (show ((B p 13 : Int) == 45) = true; rw [e13]; rfl)
    | (show ((B p 18 : Int) == 45) = true; rw [e18]; rfl)
    | (show ((B p 23 : Int) == 45) = true; rw [e23]; rfl)
theorem low_hex : ∀ n : Fin 256, ((List.range 16).any fun k => B d16 k == (loB (UInt8.ofNat n.val)).toNat) = okH n.val := by decide +kernel
theorem plc_hex (c : UInt8) (r : Int) (h : Plc d16 (loB c).toNat r) : decide (0 ≤ r) = okH c.toNat := by
  have hl := low_hex ⟨c.toNat, c.toNat_lt⟩
  rw [show UInt8.ofNat c.toNat = c by simp] at hl
  rw [show okH c.toNat = okH (⟨c.toNat, c.toNat_lt⟩ : Fin 256).val from rfl, ← hl]
  rcases h with ⟨k, hk, rfl, hb, _⟩ | ⟨rfl, hno⟩
  · rw [decide_eq_true (by omega), eq_comm, List.any_eq_true]
    exact ⟨k, List.mem_range.2 hk, by rw [hb]; simp⟩
  · rw [decide_eq_false (by decide), eq_comm, List.any_eq_false]
    intro k hk
    have := hno k (List.mem_range.1 hk)
    simpa using this

set_option maxRecDepth 100000 in
theorem uuidSign_walk (a0 : Option Addr) (x0 : List UInt8) (c0 : Nat) (a1 a2 : Int) (w : World) (hT : XTab w) (h0 : Rd w a0 x0) (_hc : x0.length ≤ c0) (_hc' : c0 ≤ 9223372036854775807) (_w1 : (Lit.int .i64 a1).wf = true) (w2 : (Lit.int .u8 a2).wf = true) :
    Calls Tryd.prog 5 #[.slice a0 x0.length c0, .int .i64 a1, .int .u8 a2] w fun e w' => e = .returned (.bool true) ∧ Below w.heap.size w w' := by
  have hb := Below.refl w.heap.size w
  have hl := h0.1
  have HT := Lib.hid hT
  have hc2 := u8_of_wf w2
  clear _hc _hc' hT _w1 w2
  by_cases hbig : 2147483647 < x0.length
  · go_enter Tryd.func5, Tryd.ntmps5
    go_wp2
    go_ret
    exact ⟨rfl, hb⟩
  by_cases hlen : x0.length = 16
  · by_cases hneg : a1 < 0
    · rw [hlen]
      go_enter Tryd.func5, Tryd.ntmps5
      go_wp2
      go_ret
      exact ⟨rfl, hb⟩
    by_cases h35 : 35 < a1
    · rw [hlen]
      go_enter Tryd.func5, Tryd.ntmps5
      go_wp2
      go_ret
      exact ⟨rfl, hb⟩
    obtain ⟨i, rfl⟩ : ∃ i : Nat, a1 = i := ⟨a1.toNat, by omega⟩
    have hi : i < 36 := by omega
    obtain ⟨c, hcc⟩ : ∃ c : UInt8, UInt8.ofNat a2.toNat = c := ⟨_, rfl⟩
    rw [hcc] at hc2
    rw [← hc2, hlen]
    have L := Lib.hid hlen
    have hlt : (utext x0).length = 36 := utext_len x0 hlen
    have hst := (std_text hlen).1
    have hset := std_set hlt hst c i hi
    have hdsh := std_dashAt hst i hi
    have HU : Hid (∀ w', Rd w' a0 x0 → Calls Tryd.prog 8 #[.slice a0 16 c0] w' fun e w'' => e = .returned (str (utext x0)) ∧ Below w'.heap.size w' w'') := Lib.hid (fun w' r => specText_ok a0 x0 c0 w' r hlen)
    obtain ⟨t, ht⟩ : ∃ t, utext x0 = t := ⟨_, rfl⟩
    rw [ht] at hlt hset hdsh HU
    clear hst ht
    obtain ⟨W, hW⟩ : ∃ W, stdOk (t.set i c) = W := ⟨_, rfl⟩
    have hlp : (t.set i c).length = 36 := by rw [List.length_set]; exact hlt
    have HRD : Hid (∀ w', XTab w' → Calls Tryd.prog 6 #[str (t.set i c)] w' fun e w'' => (∃ r, e = .returned (.tuple #[r, .bool W])) ∧ Below w'.heap.size w' w'') := Lib.hid (fun w' hT' => by
      cases W with
      | true => exact (uuidRead_good _ (stdB (t.set i c)) (by simp [stdB]) w' ((parse36 _ hlp w' hT').mono fun _ _ h' => ⟨h'.1.1 hW, h'.2⟩)).mono fun _ _ ⟨r, h1, _, h2⟩ => ⟨⟨r, h1⟩, h2⟩
      | false => exact (uuidRead_bad _ w' ((parse36 _ hlp w' hT').mono fun _ _ h' => ⟨h'.1.2 hW, h'.2⟩)).mono fun _ _ ⟨h1, h2⟩ => ⟨⟨_, h1⟩, h2⟩)
    have HVD : Hid (∀ w', XTab w' → Calls Tryd.prog 7 #[str (t.set i c)] w' fun e w'' => e = .returned (.bool W) ∧ Below w'.heap.size w' w'') := Lib.hid (fun w' hT' => by
      cases W with
      | true => exact uuidValid_good _ w' ((val36 _ hlp w' hT').mono fun _ _ h' => ⟨h'.1.1 hW, h'.2⟩)
      | false => exact uuidValid_bad _ w' ((val36 _ hlp w' hT').mono fun _ _ h' => ⟨h'.1.2 hW, h'.2⟩))
    rw [hW] at hset
    have HLT := Lib.hid hlt
    have HLP := Lib.hid hlp
    have hc45 : ((c.toNat : Int) == 45) = (c == 45) := by
      rw [Bool.eq_iff_iff, beq_iff_eq, beq_iff_eq]
      exact ⟨fun h => UInt8.toNat_inj.1 (by show c.toNat = 45; omega), fun h => by rw [h]; rfl⟩
    have hcn := c.toNat_lt
    clear hW hlt hlp hl hlen hbig hneg h35 hcc hc2
    generalize hD : isDash i = D at *
    have HDD := Lib.hid hD
    clear hD
    cases D with
    | true =>
      rw [if_pos rfl] at hset
      rw [← hset] at hc45
      have HS := Lib.hid hset
      clear hset
      cases W
      all_goals
        go_enter Tryd.func5, Tryd.ntmps5
        go_wp2_with (go_at_call 8; refine (HU.out _ h0).mono ?_)
        rintro e w2 ⟨rfl, hb2⟩
        go_wp2_with (refine wp_of_string_f rfl rfl Tryd.underlying9 Tryd.underlying22 Tryd.underlying5 (bs := t) rfl rfl HLT.out ?_)
        intro g cap w3 f3 hg hb3 hcap
        have hw3 := hb2.trans (hb3.mono hb2.size)
        have hcell := (f3 i (by rw [HLT.out]; exact hi)).1
        have hgg : w.heap.size ≤ g := Nat.le_trans hb2.size hg
        have F3 := Lib.hid f3
        clear f3 hb2 hb3
        go_wp2_with (refine wp_store_f rfl rfl (by kernel_rfl) rfl rfl F3.out (by rw [HLT.out]; exact hi) c rfl hw3 hgg ?_)
        intro w5 f5 hw5
        clear hcell F3 hw3
        have r5 := f5.rd (by rw [HLP.out]; decide)
        go_wp2_with (refine wp_to_string rfl rfl Tryd.underlying22 Tryd.underlying5 Tryd.underlying9 rfl r5 HLP.out ?_)
        go_wp2_with (first | (go_at_call 6; refine (HRD.out _ (XTab.kept HT.out hw5)).mono ?_; rintro e w6 ⟨⟨r6, rfl⟩, hb6⟩) | (refine wp_to_string_w rfl rfl Tryd.underlying22 Tryd.underlying5 Tryd.underlying9 rfl (r5.kept hb6) HLP.out ?_) | (go_at_call 7; refine (HVD.out _ (XTab.kept HT.out (hw5.trans (hb6.mono hw5.size)))).mono ?_))
        rintro e w7 ⟨rfl, hb7⟩
        have hw6 := hw5.trans (hb6.mono hw5.size)
        have hw7 := hw6.trans (hb7.mono hw6.size)
        go_wp2_with (refine wp_make_zero_w rfl rfl Tryd.underlying22 info5 rfl (n := 16) rfl rfl (by decide) (by decide) ?_)
        intro w8 b8 g8 s8
        clear s8
        have hw8 := hw7.trans ((below_grown g8).mono hw7.size)
        have r8 := (show Blk w8 w7.heap.size (bvs (List.replicate 16 0)) 5 from b8).rd (by decide)
        go_wp2_with (go_at_call 8; refine (specText_ok _ _ _ _ r8 rfl).mono ?_)
        rintro e w9 ⟨rfl, hb9⟩
        have hw9 := hw8.trans (hb9.mono hw8.size)
        go_wp2_with (go_at_call 7; refine (valid_zero _ (XTab.kept HT.out hw9)).mono ?_)
        rintro e w10 ⟨rfl, hb10⟩
        have hw10 := hw9.trans (hb10.mono hw9.size)
        go_wp2
        go_ret
        exact ⟨rfl, hw10⟩
    | false =>
      rw [if_neg (by decide)] at hset
      have HS := Lib.hid hset
      clear hset hc45
      have HLO : Hid (∀ w', Calls Tryd.prog 13 #[str [c]] w' fun e w'' => e = .returned (str [loB c]) ∧ Below w'.heap.size w' w'') := Lib.hid (fun w' => lower_ok [c] w' (by simp))
      have HPL : Hid (∀ w', Calls Tryd.prog 12 #[.string ⟨d16.toArray⟩, .int .u8 ((loB c).toNat : Int)] w' fun e w'' => ∃ r, e = .returned (.int .i64 r) ∧ Plc d16 (loB c).toNat r ∧ w'' = w') := Lib.hid (fun w' => place_ok _ d16 rfl _ w' (by decide))
      cases W
      all_goals
        go_enter Tryd.func5, Tryd.ntmps5
        go_wp2_with (go_at_call 8; refine (HU.out _ h0).mono ?_)
        rintro e w2 ⟨rfl, hb2⟩
        go_wp2_with (refine wp_of_string_f rfl rfl Tryd.underlying9 Tryd.underlying22 Tryd.underlying5 (bs := t) rfl rfl HLT.out ?_)
        intro g cap w3 f3 hg hb3 hcap
        have hw3 := hb2.trans (hb3.mono hb2.size)
        have hcell := (f3 i (by rw [HLT.out]; exact hi)).1
        have hgg : w.heap.size ≤ g := Nat.le_trans hb2.size hg
        have F3 := Lib.hid f3
        clear f3 hb2 hb3
        go_wp2_with (refine wp_store_f rfl rfl (by kernel_rfl) rfl rfl F3.out (by rw [HLT.out]; exact hi) c rfl hw3 hgg ?_)
        intro w4 f4 hw4
        clear hcell F3 hw3
        go_wp2_with (refine wp_buildSlice rfl rfl rfl (cs := [.int .u8 (c.toNat : Int)]) (e := 5) (fun w => by kernel_rfl) ?_)
        intro w41 b41 g41 s41
        clear s41
        have hw41 := hw4.trans ((below_grown g41).mono hw4.size)
        have f41 := f4.kept (below_grown g41)
        have r41 := (show Blk w41 w4.heap.size (bvs [c]) 5 from b41).rd (by simp)
        clear f4 hw4 g41 b41
        go_wp2_with (refine wp_to_string rfl rfl Tryd.underlying22 Tryd.underlying5 Tryd.underlying9 rfl r41 rfl ?_)
        go_wp2_with (go_at_call 13; refine (HLO.out _).mono ?_)
        rintro e w42 ⟨rfl, hb42⟩
        have hw42 := hw41.trans (hb42.mono hw41.size)
        have f42 := f41.kept hb42
        clear f41 hw41 r41 hb42
        go_wp2_with (first | (refine wp_val_at (d := 46) rfl (v := .int .u8 ((loB c).toNat : Int)) rfl (still_str_at (S := fun _ => True) rfl Tryd.underlying9 (p := [loB c]) rfl 0 rfl (by simp) _ trivial) ?_) | (go_at_call 12; refine (HPL.out _).mono ?_; rintro e w5 ⟨r, rfl, hplc, rfl⟩) | (refine wp_to_string rfl rfl Tryd.underlying22 Tryd.underlying5 Tryd.underlying9 rfl (f42.rd (by rw [HLP.out]; decide)) HLP.out ?_))
        have hr := plc_hex c r hplc
        rw [← HS.out] at hr
        have f5 := f42
        have hw5 := hw42
        clear f42 hw42 hplc
        have r5 := f5.rd (by rw [HLP.out]; decide)
        go_wp2_with (first | (go_at_call 6; refine (HRD.out _ (XTab.kept HT.out hw5)).mono ?_; rintro e w6 ⟨⟨r6, rfl⟩, hb6⟩) | (refine wp_to_string_w rfl rfl Tryd.underlying22 Tryd.underlying5 Tryd.underlying9 rfl (r5.kept hb6) HLP.out ?_) | (go_at_call 7; refine (HVD.out _ (XTab.kept HT.out (hw5.trans (hb6.mono hw5.size)))).mono ?_))
        rintro e w7 ⟨rfl, hb7⟩
        have hw6 := hw5.trans (hb6.mono hw5.size)
        have hw7 := hw6.trans (hb7.mono hw6.size)
        go_wp2_with (refine wp_make_zero_w rfl rfl Tryd.underlying22 info5 rfl (n := 16) rfl rfl (by decide) (by decide) ?_)
        intro w8 b8 g8 s8
        clear s8
        have hw8 := hw7.trans ((below_grown g8).mono hw7.size)
        have r8 := (show Blk w8 w7.heap.size (bvs (List.replicate 16 0)) 5 from b8).rd (by decide)
        go_wp2_with (go_at_call 8; refine (specText_ok _ _ _ _ r8 rfl).mono ?_)
        rintro e w9 ⟨rfl, hb9⟩
        have hw9 := hw8.trans (hb9.mono hw8.size)
        go_wp2_with (go_at_call 7; refine (valid_zero _ (XTab.kept HT.out hw9)).mono ?_)
        rintro e w10 ⟨rfl, hb10⟩
        have hw10 := hw9.trans (hb10.mono hw9.size)
        go_wp2
        go_ret
        exact ⟨rfl, hw10⟩
  · have hne : ((x0.length : Int) != 16) = true := by rw [bne_iff_ne]; omega
    go_enter Tryd.func5, Tryd.ntmps5
    go_wp2
    go_ret
    exact ⟨rfl, hb⟩
end Go.Proofs.YtdjppileeeljnaaDoor
