/- Contract of the thin package's KsuidSet. -/
import Derived.Test.YtbacbgicfomkbaaKComp
namespace Go.Proofs.Ytbacbgicfomkbaa
open Go.RowKit
set_option linter.unusedVariables false
set_option linter.unusedSimpArgs false
def lenV : Value → Nat
  | .slice _ n _ => n
  | _ => 0
theorem own_len {w : World} {base e size n : Nat} {v : Value} {xs : List Value} (h : w.ownsRow base e size v n xs) : lenV v = n := by
  rcases h.2 with ⟨rfl, h0⟩ | ⟨g, cap, cur, rfl, _⟩
  · exact h0.symm
  · rfl
/-- The bytes of a set that has any lie in a block of their own, below another one. -/
def CSet (w : World) (ad : Option Addr) (m b : Nat) (xs : List UInt8) : Prop := 0 < m → ∃ gc more, ad = some ⟨gc, 0, none⟩ ∧ Blk w gc (bvs xs ++ more) 5 ∧ gc < b
theorem CSet.kept {w w' : World} {ad : Option Addr} {m b : Nat} {xs : List UInt8} (h : CSet w ad m b xs) (hb : Below w.heap.size w w') : CSet w' ad m b xs := fun h0 => by
  obtain ⟨gc, more, e, hB, hl⟩ := h h0
  exact ⟨gc, more, e, hB.kept hb, hl⟩
theorem CSet.grown {w w' : World} {ad : Option Addr} {m b g : Nat} {xs : List UInt8} (h : CSet w ad m b xs) (hb : w.grownBy w' (some g)) (hg : b ≤ g) : CSet w' ad m b xs := fun h0 => by
  obtain ⟨gc, more, e, hB, hl⟩ := h h0
  exact ⟨gc, more, e, hB.grown hb (by simp; omega), hl⟩
theorem CSet.grownO {w w' : World} {ad : Option Addr} {m b base e size n : Nat} {v : Value} {xs : List UInt8} {vs : List Value} (h : CSet w ad m b xs) (ho : w.ownsRow base e size v n vs) (he : 5 ≠ e) (hb : w.grownBy w' v.ownBlock) : CSet w' ad m b xs := fun h0 => by
  obtain ⟨gc, more, e, hB, hl⟩ := h h0
  exact ⟨gc, more, e, hB.grown hb (own_ne ho hB he), hl⟩
theorem CSet.up {w : World} {ad : Option Addr} {m b b' : Nat} {xs : List UInt8} (h : CSet w ad m b xs) (hb : b ≤ b') : CSet w ad m b' xs := fun h0 => by
  obtain ⟨gc, more, e, hB, hl⟩ := h h0
  exact ⟨gc, more, e, hB, by omega⟩
set_option maxRecDepth 100000 in
set_option maxHeartbeats 4000000 in
theorem ksuidSet_fn (a0 : Option Addr) (ls ss : List (List UInt8)) (c0 n : Nat) (w : World) (h : RdL w a0 ls) (h20 : All20 ls) (hn : ls.length = n) (h12 : n ≤ 12) (hp : ss.Perm ls) (hsrt : ss.Pairwise leL) (hasc : Asc ss) :
    Calls Try.prog 30 #[.slice a0 n c0] w fun e w' => ∃ a cap, e = .returned (.tuple #[.slice a n cap, .bool true]) ∧ RdL w' a ss ∧ Below w.heap.size w w' := by
  have HP : Hid (ss.Perm ls ∧ ss.Pairwise leL ∧ Asc ss) := ⟨hp, hsrt, hasc⟩
  have HSN : Hid (ss.length = n) := by show _ = _; rw [hp.length_eq, hn]
  have HS20 : Hid (All20 ss) := h20.perm hp
  clear hp hsrt hasc
  have hb := Below.refl w.heap.size w
  have H := Lib.hid h
  obtain ⟨ie, hie, hz0, hz1, hz2⟩ := info_parts infoK
  have I := Lib.hid (And.intro hie (And.intro hz0 hz1))
  clear hie hz0 hz1 hz2
  have HK : Hid (All20 ls ∧ ls.length = n) := ⟨h20, hn⟩
  clear h h20 hn
  go_enter Try.func30, Try.ntmps30
  go_wp2
  have hb1 := hb.alloc (Nat.le_refl _) (.cells #[] 59)
  have own1 : (w.alloc (.cells #[] 59)).ownsRow w.heap.size 59 20 (.slice (some ⟨w.heap.size, 0, none⟩) 0 0) 0 (flatK (ls.take 0)) := by
    rw [List.take_zero, flatK_nil]
    exact own_mk (more := []) (Blk.new w [] 59) (Nat.le_refl _) (Nat.le_refl _) (Nat.zero_le _) rfl rfl
  clear hb
  go_loopw [4, 14] (fun v i wr => ∃ k : Nat, k ≤ n ∧ i = .int .i64 k ∧ wr.ownsRow w.heap.size 59 20 v k (flatK (ls.take k)) ∧ Below w.heap.size w wr) (fun _ i _ => n - (intOf i).toNat)
  case atStart => exact ⟨0, Nat.zero_le _, rfl, own1, hb1⟩
  case round =>
    obtain ⟨k, hk, rfl, hown, hbr⟩ := hrel
    clear own1 hb1
    by_cases hlt : k < n
    · obtain ⟨b, off, rfl, ai, ci, hc, hr⟩ := (H.out.kept hbr).at (i := k) (by rw [HK.out.2]; exact hlt)
      have hX20 : (ls.getD k []).length = 20 := HK.out.1.at (by rw [HK.out.2]; exact hlt)
      have hT : flatK (ls.take k) ++ bvs (ls.getD k []) = flatK (ls.take (k + 1)) := by
        have hkl : k < ls.length := by rw [HK.out.2]; exact hlt
        rw [List.take_add_one, flatK_append]
        simp [flatK, hkl]
      rw [hX20] at hc
      generalize ls.getD k [] = X at *
      have HX := Lib.hid hX20
      have HB := Lib.hid (show (bvs X).length = 20 by rw [bvs_length]; exact hX20)
      have HT := Lib.hid hT
      clear hX20 hT
      go_wp2_with (go_at_call 36; refine (fromBytes_ok ai X ci _ hr HX.out).mono ?_)
      rintro e w2 ⟨rfl, hb2⟩
      have hown2 := own_kept hown hb2
      have hbw2 := hbr.trans (hb2.mono hbr.size)
      clear hb2 hr hown hc
      go_wp2_with (refine wp_alloc_blk ksArr hbw2 rfl rfl rfl hbw2.size ?_)
      intro w3 b3 g3 s3 hb3
      go_wp2_with (refine wp_store_blk ksArr hb3 rfl rfl rfl rfl b3 hbw2.size rfl HB.out (bvs_one _) ?_)
      intro w4 b4 g4 s4 hb4
      have b24 := (below_grown g3).grown g4 (by omega) (by rintro j ⟨⟩; exact Nat.le_refl _)
      have hown4 := own_kept hown2 b24
      clear hown2 b24 b3 g3 g4 hb3 hbw2 s3 s4
      have hkb : (k + 1) * 20 ≤ 140737488355328 := by omega
      go_wp2_with (first | refine wp_load_blk ksArr rfl rfl rfl b4 HB.out ?_ | refine wp_lit_one rfl rfl Try.underlying70 I.out.1 I.out.2.1 I.out.2.2 (by decide) (by decide) rfl HB.out ?_)
      intro w5 b5 g5 s5
      have hown5 := own_kept hown4 (below_grown g5)
      have hb5 := hb4.trans ((below_grown g5).mono hb4.size)
      have b5' : Blk w5 w4.heap.size (bvs X) 59 := b5
      clear hown4 b4 g5 hb4 b5 s5
      go_wp2_with (at_builtin; refine wp_append_wide1 rfl rfl Try.underlying70 infoK rfl (by decide) rfl b5' HB.out (bvs_one _) rfl hown5 hkb (by omega) hb5.size ?_)
      intro v' w6 hown6 hg6
      rw [HT.out] at hown6
      have hb6 := hb5.grown hg6 hb5.size (fun j hj => (hown5.lt j hj).1)
      clear hown5 b5' hg6 hb5
      go_wp2
      go_roundw
      case rel => exact ⟨k + 1, by omega, by go_num, hown6, hb6⟩
      case measure => simp [intOf]; omega
    · have hkn : n = k := by omega
      subst hkn
      have ht : ls.take n = ls := List.take_of_length_le (by rw [HK.out.2]; exact Nat.le_refl _)
      rw [ht] at hown
      obtain ⟨ad, cap, rfl, hK⟩ := ownK_of hown HK.out.2 HK.out.1
      clear ht hown H
      go_wp2_with fail
      have hb3 := hbr.alloc hbr.size (.cells #[] 22)
      have hK3 := hK.kept ((Below.refl wr.heap.size wr).alloc (Nat.le_refl _) (.cells #[] 22))
      have own3 : (wr.alloc (.cells #[] 22)).ownsRow w.heap.size 22 1 (.slice (some ⟨wr.heap.size, 0, none⟩) 0 0) ([] : List Value).length [] :=
        own_mk (more := []) (Blk.new wr [] 22) hbr.size (Nat.le_refl _) (Nat.zero_le _) rfl rfl
      clear hK hbr
      generalize wr.alloc (.cells #[] 22) = w3 at *
      refine (compress_ok w.heap.size n cap ad ls ss w3 (by omega) hK3 HP.out.1 HP.out.2.1 HP.out.2.2).mono ?_
      rintro e w4 ⟨sv, xs, rfl, HO, hE, hxl, row, G34, hrow⟩
      clear hK3
      obtain ⟨ad2, cc, rfl, _, hxc⟩ := OwnB.rdc HO
      have CS : CSet w4 ad2 xs.length w4.heap.size xs := fun h0 => by
        obtain ⟨gc, cap', more, e1, hB, _⟩ := OwnB.blk HO rfl h0
        injection e1 with e2 _ _
        exact ⟨gc, more, e2, hB, hB.lt⟩
      have own4 := own3.kept G34 (by
        rcases hrow with rfl | ⟨gk, cs, rfl, _, hB⟩
        · exact .inr (by simp [Value.ownBlock])
        · exact .inr (fun e => own_ne own3 hB (by decide) e.symm))
      have hb4 := hb3.grown G34 hb3.size (by
        intro j hj
        rcases hrow with rfl | ⟨gk, cs, rfl, hgk, hB⟩
        · cases hj
        · cases hj; exact hgk)
      have HR0 := Lib.hid (enc_nil_rest hE)
      have HPOS : Hid (0 < n → 0 < xs.length) := by
        intro h0
        obtain ⟨x, ks, hx⟩ : ∃ x ks, ss = x :: ks := by
          cases hss : ss with
          | nil => have := HSN.out; rw [hss] at this; simp at this; omega
          | cons x ks => exact ⟨x, ks, rfl⟩
        rw [hx] at hE
        exact rest_cons_pos hE
      clear hE own3 hb3 G34 hrow HO
      obtain ⟨m, hm⟩ : ∃ m, m = xs.length := ⟨_, rfl⟩
      rw [← hm] at hxl hxc CS
      rw [← hm]
      have HM : Hid (xs.length = m) := hm.symm
      clear hm
      go_wp2_with (go_at_call 46; refine (iter_ok ad2 m cc _).mono ?_)
      rintro e w5 ⟨rfl, hb45⟩
      have own5 := own_kept own4 hb45
      have CS5 := (CS.kept hb45).up hb45.size
      have hb5 := hb4.trans (hb45.mono hb4.size)
      clear own4 CS hb45 hb4
      go_wp2_with (refine wp_alloc_blk itArr hb5 rfl rfl rfl hb5.size ?_)
      intro w6 b6 g6 s6 hb6
      clear s6
      have own6 := own_kept own5 (below_grown g6)
      have CS6 := CS5.kept (below_grown g6)
      have hgi : w.heap.size ≤ w5.heap.size := hb5.size
      clear own5 CS5 hb5 g6
      generalize w5.heap.size = gi0 at *
      go_wp2_with (refine wp_store_blk itArr hb6 rfl rfl rfl (cs := itC Z20b (.slice ad2 m cc) 0 0 0 0) rfl b6 hgi rfl rfl (itC_one _ _ _ _ _ _ _ _) ?_)
      intro w7 b7 g7 s7 hb7
      clear s7
      have own7 := own6.kept g7 (.inr (fun e => own_ne own6 b6 (by decide) e.symm))
      have CS7 := CS6.grown g7 (Nat.le_refl _)
      clear own6 CS6 b6 g7 hb6
      go_wp2_with fail
      go_loopw [9, 10] (fun v p wr => ∃ k : Nat, k ≤ n ∧ ∃ (gi off seq t2 v2 : Nat) (kk : List UInt8) (vals : List Value), p = .pointer (some ⟨gi, 0, none⟩) ∧ Hid (kk.length = 20 ∧ vals.length = k ∧ Rest xs off seq t2 v2 (ss.drop k)) ∧ w.heap.size ≤ gi ∧ Blk wr gi (itC kk (.slice ad2 m cc) off seq t2 v2) 79 ∧ CSet wr ad2 m gi xs ∧ Below w.heap.size w wr ∧ wr.ownsRow w.heap.size 22 1 v vals.length vals ∧ Elems wr w.heap.size 59 vals (ss.take k)) (fun v _ _ => n - lenV v)
      case atStart => exact ⟨0, Nat.zero_le _, gi0, 0, 0, 0, 0, Z20b, [], rfl, ⟨rfl, rfl, HR0.out⟩, hgi, b7, CS7, hb7, own7, Elems.nil _ _ _⟩
      case round =>
        clear b7 CS7 hb7 own7 hgi
        obtain ⟨k, hk, gi, off, seq, t2, v2, kk, vals, rfl, HI, hgi, BI, CS, hbr, hown, hel⟩ := hrel
        have hlen := own_len hown
        have HLV : Hid (lenV u9 = k) := by show _ = _; rw [hlen, HI.out.2.1]
        clear hlen
        by_cases hlt : k < n
        · have hX20 : (ss.getD k []).length = 20 := HS20.out.at (by rw [HSN.out]; exact hlt)
          have hT : ss.take k ++ [ss.getD k []] = ss.take (k + 1) := by
            have hkl : k < ss.length := by rw [HSN.out]; exact hlt
            rw [List.take_add_one]
            simp [hkl]
          have hdr : ss.drop k = ss.getD k [] :: ss.drop (k + 1) := drop_at (by rw [HSN.out]; exact hlt)
          have h0m : 0 < m := by rw [← HM.out]; exact HPOS.out (by omega)
          obtain ⟨bc, more, rfl, BC, hbg⟩ := CS h0m
          have RC : Rd wr (some ⟨bc, 0, none⟩) xs := BC.rdMore (by rw [HM.out]; omega)
          have hne : bc ≠ gi := by omega
          have HN := Lib.hid (next_cons gi bc 0 m cc off seq t2 v2 kk xs (ss.getD k []) (ss.drop (k + 1)) _ _ HI.out.1 BI RC HM.out hxc hxl hne (by rw [← hdr]; exact HI.out.2.2))
          obtain ⟨X, hXe⟩ : ∃ X, X = ss.getD k [] := ⟨_, rfl⟩
          rw [← hXe] at hX20 hT HN
          have HX := Lib.hid hX20
          have HB := Lib.hid (show (bvs X).length = 20 by rw [bvs_length]; exact hX20)
          have HT := Lib.hid hT
          have HVL : Hid (vals.length = k) := HI.out.2.1
          have hvb : vals.length + 1 ≤ 100 := by have := HVL.out; omega
          clear hX20 hT hdr hXe HI BC RC hne
          go_wp2_with (go_at_call 47; refine HN.out.mono ?_)
          intro e w8
          try simp only [and_imp, forall_exists_index]
          intro he _ off2 seq2 t3 v3 B8 G8 hR8
          subst he
          have HR8 := Lib.hid hR8
          have own8 := hown.kept G8 (.inr (fun e => own_ne hown BI (by decide) e.symm))
          have hel8 := hel.grownB BI (by decide) G8
          have CS8 := CS.grown G8 (Nat.le_refl _)
          have hb8 := hbr.grown G8 hbr.size (by rintro j ⟨⟩; exact hgi)
          have IL := Lib.hid (itC_length (sl := .slice (some ⟨bc, 0, none⟩) m cc) (off := off2) (seq := seq2) (ts := t3) (v := v3) HX.out)
          have IK := Lib.hid (itC_k (sl := .slice (some ⟨bc, 0, none⟩) m cc) (off := off2) (seq := seq2) (ts := t3) (v := v3) HX.out)
          have hgl : gi < w8.heap.size := B8.lt
          clear hR8 hown hel CS BI G8 hbr HN
          go_wp2_with (first | (refine wp_load_part ksArr rfl rfl rfl B8 IK.out HB.out ?_) | (go_at_call 38; refine (bytes_ok X _ HX.out).mono ?_; rintro e w9 ⟨rfl, b9, hb9, s9⟩; have own9 := own_kept own8 hb9; clear s9) | (at_builtin; refine wp_append_one rfl rfl Try.underlying23 infoSl rfl rfl rfl rfl rfl own9 (by omega) (by omega) (Nat.le_trans hb8.size hb9.size) ?_))
          intro v' w10 hown10 hg10
          have B9 := B8.kept hb9
          have B10 := B9.grown hg10 (own_ne own9 B9 (by decide))
          have hel10 := ((hel8.kept hb9).grown own9 (by decide) hg10).snoc (cap := 20) (more := []) hb8.size (by rw [HX.out]; omega) (by rw [List.append_nil]; exact b9.grown hg10 (own_ne own9 b9 (by decide)))
          rw [HX.out, HT.out] at hel10
          have CS10 := (CS8.kept hb9).grownO own9 (by decide) hg10
          have hb10 := (hb8.trans (hb9.mono hb8.size)).grown hg10 (Nat.le_trans hb8.size hb9.size) (fun j hj => (own9.lt j hj).1)
          have HLV10 : Hid (lenV v' = k + 1) := by show _ = _; rw [own_len hown10, HVL.out]
          have hgl10 : gi < w10.heap.size := B10.lt
          clear b9 hb9 own9 own8 hel8 CS8 B8 B9 hg10 hb8
          generalize Value.slice (some ⟨w8.heap.size, 0, none⟩) 20 20 = Y at hown10 hel10 ⊢
          go_wp2_with (first | refine wp_load_blk itArr rfl rfl rfl B10 IL.out ?_ | refine wp_alloc_blk itArr hb10 rfl rfl rfl hb10.size ?_)
          intro w11 b11 g11 s11 hb11
          clear s11
          have own11 := own_kept hown10 (below_grown g11)
          have hel11 := hel10.kept (below_grown g11)
          have CS11 := CS10.kept (below_grown g11)
          have hgi11 : w.heap.size ≤ w10.heap.size := hb10.size
          clear hown10 hel10 CS10 B10 g11 hb10
          generalize w10.heap.size = gi1 at *
          go_wp2_with (refine wp_store_blk itArr hb11 rfl rfl rfl rfl b11 hgi11 rfl IL.out (itC_one _ _ _ _ _ _ _ _) ?_)
          intro w12 b12 g12 s12 hb12
          clear s12
          have own12 := own11.kept g12 (.inr (fun e => own_ne own11 b11 (by decide) e.symm))
          have hel12 := hel11.grownB b11 (by decide) g12
          have CS12 := (CS11.grown g12 (by omega)).up (Nat.le_of_lt hgl10)
          clear own11 hel11 CS11 b11 g12 hb11
          go_wp2
          go_roundw
          case rel => exact ⟨k + 1, by omega, gi1, off2, seq2, t3, v3, X, vals ++ [Y], rfl, ⟨HX.out, by rw [List.length_append, HVL.out]; rfl, HR8.out⟩, hgi11, b12, CS12, hb12, by simpa using own12, hel12⟩
          case measure =>
            have h1 := HLV.out
            have h2 := HLV10.out
            show n - lenV v' < n - lenV u9
            omega
        · have hkn : n = k := by omega
          subst hkn
          have ht : ss.take n = ss := List.take_of_length_le (by rw [HSN.out]; exact Nat.le_refl _)
          have hd : ss.drop n = [] := List.drop_eq_nil_of_le (by rw [HSN.out]; exact Nat.le_refl _)
          rw [ht] at hel
          have HN := Lib.hid (next_nil gi m cc off seq t2 v2 kk xs ad2 _ _ HI.out.1 BI HM.out (by have := HI.out.2.2; rwa [hd] at this))
          clear ht hd HI CS
          go_wp2_with (go_at_call 47; refine HN.out.mono ?_)
          rintro e w8 ⟨rfl, -, G8⟩
          have own8 := hown.kept G8 (.inr (fun e => own_ne hown BI (by decide) e.symm))
          have hel8 := hel.grownB BI (by decide) G8
          have hb8 := hbr.grown G8 hbr.size (by rintro j ⟨⟩; exact hgi)
          obtain ⟨oa, oc, rfl, hrd⟩ := hel8.rdL own8 (by rw [HSN.out]; omega)
          rw [HSN.out]
          clear hown hel own8 hel8 BI G8 hbr HN
          go_wp2
          refine ret_tmp2 rfl rfl rfl rfl ?_
          exact ⟨oa, oc, rfl, hrd, hb8⟩
end Go.Proofs.Ytbacbgicfomkbaa
