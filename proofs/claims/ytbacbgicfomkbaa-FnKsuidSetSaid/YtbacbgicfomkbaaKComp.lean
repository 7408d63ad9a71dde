/- Contracts: a compressed set made of KSUIDs, and its iterator. -/
import Derived.Test.YtbacbgicfomkbaaKApp
import Derived.Test.YtbacbgicfomkbaaKIter
namespace Go.Proofs.Ytbacbgicfomkbaa
open Go.RowKit
set_option linter.unusedVariables false
set_option linter.unusedSimpArgs false
set_option maxRecDepth 100000 in
theorem appendC_nil (sv0 : Value) (ad : Option Addr) (cap : Nat) (w : World) :
    Calls Try.prog 63 #[sv0, .slice ad 0 cap] w fun e w' => e = .returned sv0 ∧ w' = w := by
  go_enter Try.func63, Try.ntmps63
  go_wp2
  go_ret
  exact ⟨rfl, rfl⟩
set_option maxRecDepth 100000 in
/-- A set made: what it says is what was given, in order. -/
theorem compress_ok (base n cap : Nat) (ad : Option Addr) (ks ss : List (List UInt8)) (w : World) (hn2 : n ≤ 1000) (hK : OwnK w base ad n cap ks) (hp : ss.Perm ks) (hsrt : ss.Pairwise leL) (hasc : Asc ss) :
    Calls Try.prog 45 #[.slice ad n cap] w fun e w' => ∃ (sv : Value) (xs : List UInt8), e = .returned sv ∧ OwnB w' w.heap.size 5 sv xs ∧ Enc 0 0 ss xs ∧ xs.length ≤ 100000 ∧ ∃ row, w.grownBy w' row ∧ (row = none ∨ ∃ gk cs, row = some gk ∧ base ≤ gk ∧ Blk w gk cs 59) := by
  have hb := Below.refl w.heap.size w
  have q1 : Int.tdiv (n : Int) 5 = ((n / 5 : Nat) : Int) := by rw [Int.tdiv_eq_ediv_of_nonneg (by omega)]; omega
  have q2 : IntKind.i64.wrap ((n / 5 : Nat) : Int) = ((n / 5 : Nat) : Int) := by rw [IntKind.wrap_i64]; omega
  have q3 : IntKind.i64.wrap ((21 : Int) + ((n / 5 : Nat) : Int)) = ((21 + n / 5 : Nat) : Int) := by rw [IntKind.wrap_i64]; omega
  have q4 : (n : Int) / 5 = ((n / 5 : Nat) : Int) := by omega
  obtain ⟨c, hc⟩ : ∃ c, c = n / 5 := ⟨_, rfl⟩
  have hc1 : c ≤ 200 := by omega
  rw [← hc] at q1 q2 q3 q4
  have q5 : (21 : Int) + (c : Int) = ((21 + c : Nat) : Int) := by omega
  obtain ⟨c2, hc2⟩ : ∃ c2, c2 = 21 + c := ⟨_, rfl⟩
  have hc3 : c2 ≤ 300 := by omega
  rw [← hc2] at q3 q5
  clear hc hc2
  have HP : Hid (ss.Perm ks ∧ ss.Pairwise leL ∧ Asc ss) := ⟨hp, hsrt, hasc⟩
  clear hp hsrt hasc
  go_enter Try.func45, Try.ntmps45
  go_wp2_with (at_make; refine wp_make_room rfl rfl Try.underlying22 info5 rfl (m := 0) (n := c2) rfl (by first | rfl | (show Value.int _ _ = _; rw [q5]) | (show Value.int _ _ = _; rw [q3])) (Nat.zero_le _) (by omega) (by omega) ?_)
  intro w1 b1 g1 s1
  have hb1 := below_grown g1
  have HO : OwnB w1 w.heap.size 5 (.slice (some ⟨w.heap.size, 0, none⟩) 0 c2) [] :=
    own_mk (xs := []) (more := List.replicate c2 (.int .u8 0)) b1 (Nat.le_refl _) (Nat.zero_le _) (by unfold maxLen; omega) (by simp) rfl
  clear s1 b1
  obtain ⟨hkn, hk20, hK2⟩ := hK
  by_cases h0 : n = 0
  · subst h0
    obtain rfl : ks = [] := List.eq_nil_of_length_eq_zero hkn
    have hss : ss = [] := HP.out.1.eq_nil
    clear hK2
    go_wp2_with (go_at_call 63; refine (appendC_nil _ _ _ _).mono ?_)
    rintro e w2 ⟨rfl, rfl⟩
    go_wp2
    go_ret
    exact ⟨_, [], rfl, HO, by rw [hss]; exact Enc.nil _ _, by decide, none, g1, .inl rfl⟩
  · obtain ⟨gk, more, rfl, hg1, hg2, hg3⟩ := hK2.resolve_left h0
    have HA := Lib.hid (appendC_ok w.heap.size gk n cap ks ss more _ w1 hkn (by omega) hn2 hg2 hk20 HP.out.1 HP.out.2.1 HP.out.2.2 (hg3.kept hb1) hb1.size HO)
    have HB : Hid (base ≤ gk ∧ Blk w gk (flatK ks ++ more) 59) := ⟨hg1, hg3⟩
    clear hg3 HO hkn hk20
    go_wp2_with (go_at_call 63; refine HA.out.mono ?_)
    rintro e w2 ⟨sv, xs, rfl, HO2, hE, hl, wS, hG1, hb2⟩
    have HE := Lib.hid hE
    have hG : w.grownBy w2 (some gk) := ⟨hb2.os.trans (hG1.os.trans g1.os), hb2.tape.trans (hG1.tape.trans g1.tape), hb2.output.trans (hG1.output.trans g1.output), Nat.le_trans g1.size (Nat.le_trans hG1.size hb2.size), fun k hk hne => (hb2.block k hk).trans ((hG1.block k (Nat.lt_of_lt_of_le hk g1.size) hne).trans (g1.block k hk (by simp)))⟩
    clear hE
    go_wp2
    go_ret
    exact ⟨sv, xs, rfl, HO2, HE.out, hl, some gk, hG, .inr ⟨gk, _, rfl, HB.out.1, HB.out.2⟩⟩
def Z20b : List UInt8 := List.replicate 20 0
theorem Z20b_length : Z20b.length = 20 := rfl
theorem itArr : Arr Try.prog 79 26 (itC Z20b (.slice none 0 0) 0 0 0 0) where
  und := ⟨_, Try.underlying79, rfl⟩
  size := by kernel_rfl
  zero := fun w => by kernel_rfl
  len := rfl
theorem it_build (ad : Option Addr) (n c : Nat) (w : World) : (Instr.build 79 #[(1, .slice ad n c)]).run Try.prog w = .ok (.agg (itC Z20b (.slice ad n c) 0 0 0 0).toArray) w := by kernel_rfl
theorem do_build1 {P : Program} {a : Act} {w : World} {o : Oper} {t : TypeId} {i : Nat} {x : Operand} {u r : Value} (ho : o.op = .build t #[(i, x)]) (hx : a.eval x = u) (h : (Instr.build t #[(i, u)]).run P w = .ok r w) : (execOp a.eval o).run P w = .ok (.value r) w := by
  subst hx
  unfold execOp
  simp [ho, Sem.run_bind, h, Result.andThen]
theorem itC_one (k : List UInt8) (ad : Option Addr) (n c off seq ts v : Nat) : ∀ u ∈ itC k (.slice ad n c) off seq ts v, u.oneCell' = true := by
  intro u hu
  rcases List.mem_append.1 hu with h | h
  · exact bvs_one k u h
  · simp [uN, u128] at h
    rcases h with rfl | rfl | rfl | rfl | rfl | rfl <;> rfl
set_option maxRecDepth 100000 in
theorem iter_ok (ad : Option Addr) (n c : Nat) (w : World) :
    Calls Try.prog 46 #[.slice ad n c] w fun e w' => e = .returned (.agg (itC Z20b (.slice ad n c) 0 0 0 0).toArray) ∧ Below w.heap.size w w' := by
  have hb := Below.refl w.heap.size w
  go_enter Try.func46, Try.ntmps46
  refine of_keeps 5 [(0, .slice ad n c)] ⟨by kernel_rfl, rfl, fun x hx => by simp at hx; rcases hx with rfl; rfl⟩ fun a hk => ?_
  refine wp_seq_k fun K0 hK0 => ?_
  refine wp_region_lit ?_
  refine wp_alloc_blk itArr hb rfl rfl rfl (Nat.le_refl _) ?_
  intro w1 b1 g1 s1 hb1
  refine keep_k (v := .pointer (some ⟨w.heap.size, 0, none⟩)) hk (by decide) (by repeat' (first | exact far_nil _ | refine far_cons (by decide) ?_)) ?_
  clear hk; intro a hk
  refine hK0 _ _ ?_
  clear hK0
  refine wp_seq_k fun K0 hK0 => ?_
  refine wp_region_lit ?_
  refine list_k rfl rfl hk (by decide) (by repeat' (first | exact far_nil _ | refine far_cons (by decide) ?_)) (v := .slice ad n c) (do_move rfl (hk.at (mt mh))) ?_
  clear hk; intro a hk
  refine list_k rfl rfl hk (by decide) (by repeat' (first | exact far_nil _ | refine far_cons (by decide) ?_)) (v := .agg (itC Z20b (.slice ad n c) 0 0 0 0).toArray) (do_build1 rfl (hk.at mh) (it_build ad n c _)) ?_
  clear hk; intro a hk
  refine wp_store_blk itArr hb1 rfl rfl (hk.at (mt (mt mh))) (cs := itC Z20b (.slice ad n c) 0 0 0 0) (hk.at mh) b1 (Nat.le_refl _) rfl rfl (itC_one _ _ _ _ _ _ _ _) ?_
  intro w2 b2 g2 s2 hb2
  refine keep_0 hk ?_
  clear hk; intro a hk
  refine hK0 _ _ (wp_ret ?_)
  exact ret_cell itArr rfl hk.2.1 (hk.at (mt (mt mh))) b2 rfl ⟨rfl, hb2⟩
theorem OwnB.rdc {w : World} {base e : Nat} {v : Value} {xs : List UInt8} (h : OwnB w base e v xs) : ∃ a cap, v = .slice a xs.length cap ∧ Rd w a xs ∧ xs.length ≤ cap := by
  rcases h.2 with ⟨rfl, hn⟩ | ⟨g, cap, cur, rfl, hg, hh, hnc, hm, hs, htake⟩
  · have : xs = [] := List.eq_nil_of_length_eq_zero hn
    subst this
    exact ⟨none, 0, rfl, ⟨by simp, .inl rfl⟩, Nat.le_refl _⟩
  · obtain ⟨a, c, hv, hr, _⟩ := OwnB.rd h
    simp only [Value.slice.injEq] at hv
    obtain ⟨h1, h2, h3⟩ := hv
    exact ⟨a, c, by rw [h1, h3], hr, by omega⟩
theorem enc_nil_rest {ss : List (List UInt8)} {xs : List UInt8} (h : Enc 0 0 ss xs) : Rest xs 0 0 0 0 ss := ⟨Nat.zero_le _, by decide, by decide, by decide, ss, rfl, by rw [List.drop_zero]; exact h⟩
theorem rest_cons_pos {c x : List UInt8} {ks : List (List UInt8)} {t v : Nat} (h : Enc t v (x :: ks) c) : 0 < c.length := by
  generalize hj : x :: ks = js at h
  cases h with
  | nil => cases hj
  | raw => simp
  | time => simp
  | delta => simp
  | range => simp
end Go.Proofs.Ytbacbgicfomkbaa
