/- Contract of the thin package's KsuidSort. -/
import Derived.Test.YtbacbgicfomkbaaOwnK
namespace Go.Proofs.Ytbacbgicfomkbaa
open Go.RowKit
set_option linter.unusedVariables false
set_option linter.unusedSimpArgs false

theorem infoK : (Try.prog.info? 59).map (fun i => (i.zero, i.size, i.bytes)) = some (some (.agg Z20.toArray), 20, 20) := by kernel_rfl
theorem infoSl : (Try.prog.info? 22).map (fun i => (i.zero, i.size, i.bytes)) = some (some (.slice none 0 0), 1, 24) := by kernel_rfl
set_option maxRecDepth 100000 in
set_option maxHeartbeats 4000000 in
theorem ksuidSort_fn (a0 : Option Addr) (ls : List (List UInt8)) (c0 n : Nat) (w : World) (h : RdL w a0 ls) (h20 : All20 ls) (hn : ls.length = n) (h12 : n ≤ 12) :
    Calls Try.prog 19 #[.slice a0 n c0] w fun e w' => ∃ a cap b js, e = .returned (.tuple #[.slice a n cap, .bool b, .bool true]) ∧ js.Perm ls ∧ js.Pairwise leL ∧ (b = true ↔ ls.Pairwise leL) ∧ RdL w' a js ∧ Below w.heap.size w w' := by
  have hb := Below.refl w.heap.size w
  have H := Lib.hid h
  obtain ⟨ie, hie, hz0, hz1, hz2⟩ := info_parts infoK
  have I := Lib.hid (And.intro hie (And.intro hz0 hz1))
  clear hie hz0 hz1 hz2
  have HK : Hid (All20 ls ∧ ls.length = n) := ⟨h20, hn⟩
  clear h h20 hn
  go_enter Try.func19, Try.ntmps19
  go_wp2
  have hb1 := hb.alloc (Nat.le_refl _) (.cells #[] 59)
  have own1 : (w.alloc (.cells #[] 59)).ownsRow w.heap.size 59 20 (.slice (some ⟨w.heap.size, 0, none⟩) 0 0) 0 (flatK (ls.take 0)) := by
    rw [List.take_zero, flatK_nil]
    exact own_mk (more := []) (Blk.new w [] 59) (Nat.le_refl _) (Nat.le_refl _) (Nat.zero_le _) rfl rfl
  clear hb
  go_loopw [5, 17] (fun v i wr => ∃ k : Nat, k ≤ n ∧ i = .int .i64 k ∧ wr.ownsRow w.heap.size 59 20 v k (flatK (ls.take k)) ∧ Below w.heap.size w wr) (fun _ i _ => n - (intOf i).toNat)
  case atStart => exact ⟨0, Nat.zero_le _, rfl, own1, hb1⟩
  case round =>
    obtain ⟨k, hk, rfl, hown, hbr⟩ := hrel
    clear own1 hb1
    by_cases hlt : k < n
    · obtain ⟨b, off, rfl, ai, ci, hc, hr⟩ := (H.out.kept hbr).at (i := k) (by rw [HK.out.2]; exact hlt)
      have hX20 : (ls.getD k []).length = 20 := HK.out.1.at (by rw [HK.out.2]; exact hlt)
      have hT : flatK (ls.take k) ++ bvs (ls.getD k []) = flatK (ls.take (k + 1)) := by
        have hkl : k < ls.length := by rw [HK.out.2]; exact hlt
        rw [List.take_add_one, flatK_append]
        simp [flatK, hkl]
      rw [hX20] at hc
      generalize ls.getD k [] = X at *
      have HX := Lib.hid hX20
      have HB := Lib.hid (show (bvs X).length = 20 by rw [bvs_length]; exact hX20)
      have HT := Lib.hid hT
      clear hX20 hT
      go_wp2_with (go_at_call 36; refine (fromBytes_ok ai X ci _ hr HX.out).mono ?_)
      rintro e w2 ⟨rfl, hb2⟩
      have hown2 := own_kept hown hb2
      have hbw2 := hbr.trans (hb2.mono hbr.size)
      clear hb2 hr hown hc
      go_wp2_with (refine wp_alloc_blk ksArr hbw2 rfl rfl rfl hbw2.size ?_)
      intro w3 b3 g3 s3 hb3
      go_wp2_with (refine wp_store_blk ksArr hb3 rfl rfl rfl rfl b3 hbw2.size rfl HB.out (bvs_one _) ?_)
      intro w4 b4 g4 s4 hb4
      have b24 := (below_grown g3).grown g4 (by omega) (by rintro j ⟨⟩; exact Nat.le_refl _)
      have hown4 := own_kept hown2 b24
      clear hown2 b24 b3 g3 g4 hb3 hbw2 s3 s4
      have hkb : (k + 1) * 20 ≤ 140737488355328 := by omega
      go_wp2_with (first | refine wp_load_blk ksArr rfl rfl rfl b4 HB.out ?_ | refine wp_lit_one rfl rfl Try.underlying70 I.out.1 I.out.2.1 I.out.2.2 (by decide) (by decide) rfl HB.out ?_)
      intro w5 b5 g5 s5
      have hown5 := own_kept hown4 (below_grown g5)
      have hb5 := hb4.trans ((below_grown g5).mono hb4.size)
      have b5' : Blk w5 w4.heap.size (bvs X) 59 := b5
      clear hown4 b4 g5 hb4 b5 s5
      go_wp2_with (at_builtin; refine wp_append_wide1 rfl rfl Try.underlying70 infoK rfl (by decide) rfl b5' HB.out (bvs_one _) rfl hown5 hkb (by omega) hb5.size ?_)
      intro v' w6 hown6 hg6
      rw [HT.out] at hown6
      have hb6 := hb5.grown hg6 hb5.size (fun j hj => (hown5.lt j hj).1)
      clear hown5 b5' hg6 hb5
      go_wp2
      go_roundw
      case rel => exact ⟨k + 1, by omega, by go_num, hown6, hb6⟩
      case measure => simp [intOf]; omega
    · have hkn : n = k := by omega
      subst hkn
      have ht : ls.take n = ls := List.take_of_length_le (by rw [HK.out.2]; exact Nat.le_refl _)
      rw [ht] at hown
      obtain ⟨ad, cap, rfl, hK⟩ := ownK_of hown HK.out.2 HK.out.1
      clear ht hown
      go_wp2_with (go_at_call 40; refine (isSorted_all hK (by omega)).mono ?_)
      intro e w2
      try simp only [and_imp, forall_exists_index]
      intro bb he hbb hb2
      subst he
      have hK2 := hK.kept hb2
      have hbw2 := hbr.trans (hb2.mono hbr.size)
      have HBB := Lib.hid hbb
      clear hK hb2 hbr hbb
      go_wp2_with (go_at_call 41; refine (ksort_all hK2 (by omega) hbw2.size).mono ?_)
      intro e w3
      try simp only [and_imp, forall_exists_index]
      intro he js p1 p2 hK3 hbb3
      subst he
      have hbw3 := hbb3 _ hbw2
      have HP := Lib.hid (And.intro p1 p2)
      clear hbb3 hbw2 p1 p2 hK2
      go_wp2
      have hb4 := hbw3.alloc hbw3.size (.cells #[] 22)
      have hK4 := hK3.kept ((Below.refl w3.heap.size w3).alloc (Nat.le_refl _) (.cells #[] 22))
      have own4 : (w3.alloc (.cells #[] 22)).ownsRow w.heap.size 22 1 (.slice (some ⟨w3.heap.size, 0, none⟩) 0 0) ([] : List Value).length [] :=
        own_mk (more := []) (Blk.new w3 [] 22) hbw3.size (Nat.le_refl _) (Nat.zero_le _) rfl rfl
      have HJ : Hid (js.length = n) := hK3.1
      clear hK3 hbw3
      generalize w3.alloc (.cells #[] 22) = w4 at *
      go_loopw [11, 40] (fun v i wr => ∃ k : Nat, k ≤ n ∧ i = .int .i64 k ∧ OwnK wr w.heap.size ad n cap js ∧ Below w.heap.size w wr ∧ ∃ vals, wr.ownsRow w.heap.size 22 1 v vals.length vals ∧ Elems wr w.heap.size 59 vals (js.take k)) (fun _ i _ => n - (intOf i).toNat)
      case atStart => exact ⟨0, Nat.zero_le _, rfl, hK4, hb4, [], own4, Elems.nil _ _ _⟩
      case round =>
        obtain ⟨k, hk, rfl, hKr, hbr, vals, hown, hel⟩ := hrel
        clear hK4 own4 hb4
        have hvl : vals.length = k := by rw [hel.1, List.length_take, HJ.out]; omega
        by_cases hlt : k < n
        · obtain ⟨g, more, rfl, hg1, hg2, hg3⟩ := hKr.2.2.resolve_left (by omega)
          have hX20 : (js.getD k []).length = 20 := hKr.2.1.at (by rw [HJ.out]; exact hlt)
          have hat := flatK_at' hKr.2.1 k (by rw [HJ.out]; exact hlt) more
          have hT : js.take k ++ [js.getD k []] = js.take (k + 1) := by
            have hkl : k < js.length := by rw [HJ.out]; exact hlt
            rw [List.take_add_one]
            simp [hkl]
          generalize js.getD k [] = X at *
          have HX := Lib.hid hX20
          have HB := Lib.hid (show (bvs X).length = 20 by rw [bvs_length]; exact hX20)
          have HT := Lib.hid hT
          have HAT := Lib.hid hat
          have HKR := Lib.hid hKr
          have HVL := Lib.hid hvl
          have hvb : vals.length + 1 ≤ 100 := by omega
          clear hX20 hT hat hKr hvl
          go_wp2_with (first | refine wp_load_part ksArr rfl rfl rfl hg3 HAT.out HB.out ?_ | refine wp_alloc_blk ksArr hbr rfl rfl rfl hbr.size ?_)
          intro w5 b5 g5 s5 hb5
          go_wp2_with (refine wp_store_blk ksArr hb5 rfl rfl rfl rfl b5 hbr.size rfl HB.out (bvs_one _) ?_)
          intro w6 b6 g6 s6 hb6
          have b56 := (below_grown g5).grown g6 (by omega) (by rintro j ⟨⟩; exact Nat.le_refl _)
          have hown6 := own_kept hown b56
          have hel6 := hel.kept b56
          have hK6 := HKR.out.kept b56
          clear b5 g5 g6 hb5 b56 s5 s6 hown hel hg3 HKR hbr
          go_wp2_with (first | (refine wp_load_blk ksArr rfl rfl rfl b6 HB.out ?_) | (go_at_call 38; refine (bytes_ok X _ HX.out).mono ?_; rintro e w9 ⟨rfl, b9, hb9, s9⟩; have hown9 := own_kept hown6 hb9; clear s9) | (at_builtin; refine wp_append_one rfl rfl Try.underlying23 infoSl rfl rfl rfl rfl rfl hown9 (by omega) (by omega) (Nat.le_trans hb6.size hb9.size) ?_))
          intro v' w10 hown10 hg10
          have hel10 := ((hel6.kept hb9).grown hown9 (by decide) hg10).snoc (cap := 20) (more := []) (Nat.le_trans hb6.size (Nat.le_refl _)) (by rw [HX.out]; omega) (by rw [List.append_nil]; exact b9.grown hg10 (own_ne hown9 b9 (by decide)))
          rw [HX.out, HT.out] at hel10
          have hbw10 := (hb6.trans (hb9.mono hb6.size)).grown hg10 (Nat.le_trans hb6.size hb9.size) (fun j hj => (hown9.lt j hj).1)
          have hK10 : OwnK w10 w.heap.size (some ⟨g, 0, none⟩) n cap js := by
            have h9 := hK6.kept hb9
            obtain ⟨g', more', e', q1, q2, q3⟩ := h9.2.2.resolve_left (by omega)
            exact ⟨h9.1, h9.2.1, .inr ⟨g', more', e', q1, q2, q3.grown hg10 (own_ne hown9 q3 (by decide))⟩⟩
          clear hown9 hown6 hel6 hK6 b9 hg10 b6 hb6 hb9
          go_wp2
          go_roundw
          case rel => exact ⟨k + 1, by omega, by go_num, hK10, hbw10, _, by simpa using hown10, hel10⟩
          case measure => simp [intOf]; omega
        · have hkn : n = k := by omega
          subst hkn
          have ht : js.take n = js := List.take_of_length_le (by rw [HJ.out]; exact Nat.le_refl _)
          rw [ht] at hel
          obtain ⟨oa, oc, rfl, hrd⟩ := hel.rdL hown (by rw [HJ.out]; omega)
          rw [HJ.out]
          clear hvl ht hown hel
          go_wp2_with (go_at_call 40; refine (isSorted_all hKr (by omega)).mono ?_)
          intro e w5
          try simp only [and_imp, forall_exists_index]
          intro b2 he hb2 hb5
          subst he
          obtain rfl : b2 = true := hb2.2 HP.out.2
          have hrd5 := hrd.kept hb5
          have hbw5 := hbr.trans (hb5.mono hbr.size)
          clear hb2 hrd hbr hb5
          go_wp2
          refine ret_tmp3 rfl rfl rfl rfl rfl ?_
          exact ⟨oa, oc, bb, js, rfl, HP.out.1, HP.out.2, HBB.out, hrd5, hbw5⟩
end Go.Proofs.Ytbacbgicfomkbaa
