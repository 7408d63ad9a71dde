/- SHA-1: the loops of the block function, over an abstract frame. -/
import Derived.Test.YtjmmkjdlkecmhaaShaReg2
namespace Go.Proofs.Ytjmmkjdlkecmhaa
open Go.RowKit
set_option linter.unusedVariables false
set_option linter.unusedSimpArgs false
/-- What a frame holds in the rounds. -/
def Ev (gw i : Nat) (s : St) (R : List (Nat × Value)) : List (Nat × Value) :=
  (4, .pointer (some ⟨gw, 0, none⟩)) :: (12, .int .u32 s.a) :: (13, .int .u32 s.b) :: (14, .int .u32 s.c) :: (15, .int .u32 s.d) :: (16, .int .u32 s.e) :: (17, .int .i64 ((i : Nat) : Int)) :: R
def slotN (a : Act) (t : Nat) : Nat := (intOf (a.eval (.tmp t))).toNat
structure RF (f : Int → Int → Int → Int) (d : Nat) (id : Nat) (l : List Oper) : Prop where
  ok : ∀ (Q : Exit → Act → World → Prop) (a : Act) (w : World) (gw i : Nat) (s : St) (R : List (Nat × Value)), (∀ x ∈ R, x.1 < 10) → Keeps 397 (Ev gw i s R) a → (∀ a', Keeps 397 ((d, .int .u32 (f s.b s.c s.d)) :: Ev gw i s R) a' → Q .normal a' w) → (Code.region id l.toArray false).wp Try.prog Q a w
theorem RF.A {l : List Oper} {b d id : Nat} (hO : RegFA l b d) (h1 : 57 ≤ b) (h2 : b + 7 ≤ 396) (h3 : 18 ≤ d) (h4 : d < 57) : RF fA d id l := ⟨fun Q a w gw i s R hR hk h => RegFA_ok hO h1 h2 h3 h4 hR hk h⟩
theorem RF.B {l : List Oper} {b d id : Nat} (hO : RegFB l b d) (h1 : 57 ≤ b) (h2 : b + 4 ≤ 396) (h3 : 18 ≤ d) (h4 : d < 57) : RF fB d id l := ⟨fun Q a w gw i s R hR hk h => RegFB_ok hO h1 h2 h3 h4 hR hk h⟩
theorem RF.C {l : List Oper} {b d id : Nat} (hO : RegFC l b d) (h1 : 57 ≤ b) (h2 : b + 8 ≤ 396) (h3 : 18 ≤ d) (h4 : d < 57) : RF fC d id l := ⟨fun Q a w gw i s R hR hk h => RegFC_ok hO h1 h2 h3 h4 hR hk h⟩

theorem loopS_ok {Q : Exit → Act → World → Prop} {B B2 i1 i2 i3 i4 i5 i6 i7 : Nat} {lc lt ls lf lu lm li : List Oper} {bc bt bs bu bm bi dt df du lo n hi : Nat} {K : Int} {f : Int → Int → Int → Int} {a : Act} {w : World} {gw : Nat} {s : St} {R : List (Nat × Value)}
    (hc : RegC lc bc hi) (hc1 : 57 ≤ bc) (hc2 : bc + 1 ≤ 396) (ht : RegT lt bt dt) (ht1 : 57 ≤ bt) (ht2 : bt + 21 ≤ 396) (hdt1 : 18 ≤ dt) (hdt2 : dt < 57) (hs : RegS ls bs dt) (hs1 : 57 ≤ bs) (hs2 : bs + 4 ≤ 396)
    (hf : RF f df i4 lf) (hdf1 : 18 ≤ df) (hdf2 : df < 57) (hu : RegU lu bu df du K) (hu1 : 57 ≤ bu) (hu2 : bu + 11 ≤ 396) (hdu1 : 18 ≤ du) (hdu2 : du < 57) (hne : du ≠ df) (hm : RegM lm bm du) (hm1 : 57 ≤ bm) (hm2 : bm + 5 ≤ 396) (hi' : RegI li bi) (hi1 : 57 ≤ bi) (hi2 : bi + 1 ≤ 396)
    (hlo : 16 ≤ lo) (hhi : lo + n = hi) (h80 : hi ≤ 80) (hR : ∀ x ∈ R, x.1 < 10) (hQ : ∀ c a d v w, Q (.panic c) (a.put d v) w → Q (.panic c) a w) (hk : Keeps 397 (Ev gw lo s R) a) (hW : Cells16 w gw s.W)
    (h : ∀ a' w', Keeps 397 (Ev gw hi (itR (rd1 f K) lo n s) R) a' → Cells16 w' gw (itR (rd1 f K) lo n s).W → w.grownBy w' (some gw) → Q .normal a' w') :
    (Code.block B (.loop (.seq (.seq (.region i1 lc.toArray false) (.cond (.tmp (bc + 1)) .skip (.exit B))) (.seq (.block B2 (.seq (.region i2 lt.toArray true) (.seq (.region i3 ls.toArray false) (.seq (.region i4 lf.toArray false) (.seq (.region i5 lu.toArray true) (.region i6 lm.toArray false)))))) (.region i7 li.toArray false))))).wp Try.prog Q a w := by
  refine wp_block ?_
  refine wp_loop (fun a' w' => ∃ k, k ≤ n ∧ Keeps 397 (Ev gw (lo + k) (itR (rd1 f K) lo k s) R) a' ∧ Cells16 w' gw (itR (rd1 f K) lo k s).W ∧ w.grownBy w' (some gw)) (fun a' _ => hi - slotN a' 17) ⟨0, Nat.zero_le _, hk, hW, World.grownBy.refl _ _⟩ ?_
  rintro a1 w1 ⟨k, hkn, ka, hW1, hG1⟩
  have hmu : slotN a1 17 = lo + k := by
    unfold slotN
    rw [ka.at (t := 17) (v := .int .i64 ((lo + k : Nat) : Int)) (by simp [Ev])]
    simp [intOf] <;> omega
  generalize hs0 : itR (rd1 f K) lo k s = s1 at *
  refine wp_seq_k fun K1 hK1 => ?_
  refine wp_seq_k fun K2 hK2 => ?_
  refine RegC_ok hc hc1 hc2 hR ka fun a2 k2 => ?_
  refine hK2 _ _ (wp_cond (k2.at (List.mem_cons_self ..)) ?_)
  have k2' : Keeps 397 (Ev gw (lo + k) s1 R) a2 := ⟨k2.1, k2.2.1, fun x hx => k2.2.2 x (List.mem_cons_of_mem _ hx)⟩
  clear hK2 k2 ka
  by_cases hlt : lo + k < hi
  · rw [decide_eq_true hlt]
    refine wp_skip (hK1 _ _ ?_)
    clear hK1
    refine wp_seq_k fun K3 hK3 => wp_block ?_
    refine wp_seq_k fun K4 hK4 => ?_
    refine RegT_ok ht ht1 ht2 hdt1 hdt2 (by omega) (by omega) hW1 hR (fun c a d v w h => hQ c a d v w h) k2' fun a3 w3 hp3 hb3 k3 => hK4 _ _ ?_
    have hW3 := hW1.kept hb3
    have hG3 := grown_trans hG1 (grown_below hb3 _)
    clear hK4 hW1 hG1 k2'
    refine wp_seq_k fun K5 hK5 => ?_
    refine RegS_ok hs hs1 hs2 hdt1 hdt2 (by omega) hW3 hR k3 fun a4 w4 k4 hW4 gr4 => hK5 _ _ ?_
    have hG4 := grown_trans hG3 gr4
    have k4' : Keeps 397 (Ev gw (lo + k) (sch (lo + k) s1) R) a4 := k4
    have hW4' : Cells16 w4 gw (sch (lo + k) s1).W := hW4
    clear hK5 hW3 hG3 gr4 k3 k4 hW4
    generalize hs2e : sch (lo + k) s1 = s2 at *
    refine wp_seq_k fun K6 hK6 => ?_
    refine hf.ok _ _ _ _ _ _ _ hR k4' fun a5 k5 => hK6 _ _ ?_
    clear hK6 k4'
    refine wp_seq_k fun K7 hK7 => ?_
    refine RegU_ok hu hu1 hu2 hdu1 hdu2 hdf1 hdf2 hne (by omega) hW4' hR (fun c a d v w h => hQ c a d v w h) k5 fun a6 w6 hp6 hb6 k6 => hK7 _ _ ?_
    have hW6 := hW4'.kept hb6
    have hG6 := grown_trans hG4 (grown_below hb6 _)
    clear hK7 k5 hW4' hG4
    refine RegM_ok hm hm1 hm2 hdu1 hdu2 hR k6 fun a7 k7 => hK3 _ _ ?_
    have k7' : Keeps 397 (Ev gw (lo + k) (stp f K (lo + k) s2) R) a7 := k7
    have hW7 : Cells16 w6 gw (stp f K (lo + k) s2).W := hW6
    clear hK3 k6 k7 hW6
    refine RegI_ok hi' hi1 hi2 (by omega) hR k7' fun a8 k8 => ?_
    have hst : itR (rd1 f K) lo (k + 1) s = stp f K (lo + k) s2 := by
      show rd1 f K (lo + k) (itR (rd1 f K) lo k s) = _
      rw [hs0, rd1, hs2e]
    refine ⟨⟨k + 1, by omega, ?_, ?_, hG6⟩, ?_⟩
    · rw [hst]; exact k8
    · rw [hst]; exact hW7
    · rw [hmu]
      have : slotN a8 17 = lo + k + 1 := by
        unfold slotN
        rw [k8.at (t := 17) (v := .int .i64 ((lo + k + 1 : Nat) : Int)) (by simp)]
        simp [intOf] <;> omega
      rw [this]
      omega
  · rw [decide_eq_false hlt]
    obtain rfl : k = n := by omega
    refine wp_exit ?_
    show (if B = B then Q .normal a2 w1 else _)
    rw [if_pos rfl]
    subst hs0
    rw [hhi] at k2'
    exact h _ _ k2' hW1 hG1

theorem loopA_ok {Q : Exit → Act → World → Prop} {B B2 i1 i4 i5 i6 i7 : Nat} {lc lf lu lm li : List Oper} {bc bu bm bi df du n : Nat} {K : Int} {f : Int → Int → Int → Int} {a : Act} {w : World} {gw : Nat} {s : St} {R : List (Nat × Value)}
    (hc : RegC lc bc n) (hc1 : 57 ≤ bc) (hc2 : bc + 1 ≤ 396)
    (hf : RF f df i4 lf) (hdf1 : 18 ≤ df) (hdf2 : df < 57) (hu : RegU lu bu df du K) (hu1 : 57 ≤ bu) (hu2 : bu + 11 ≤ 396) (hdu1 : 18 ≤ du) (hdu2 : du < 57) (hne : du ≠ df) (hm : RegM lm bm du) (hm1 : 57 ≤ bm) (hm2 : bm + 5 ≤ 396) (hi' : RegI li bi) (hi1 : 57 ≤ bi) (hi2 : bi + 1 ≤ 396)
    (h80 : n ≤ 80) (hR : ∀ x ∈ R, x.1 < 10) (hQ : ∀ c a d v w, Q (.panic c) (a.put d v) w → Q (.panic c) a w) (hk : Keeps 397 (Ev gw 0 s R) a) (hW : Cells16 w gw s.W)
    (h : ∀ a' w', Keeps 397 (Ev gw n (itR (stp f K) 0 n s) R) a' → Cells16 w' gw (itR (stp f K) 0 n s).W → w.grownBy w' (some gw) → Q .normal a' w') :
    (Code.block B (.loop (.seq (.seq (.region i1 lc.toArray false) (.cond (.tmp (bc + 1)) .skip (.exit B))) (.seq (.block B2 (.seq (.region i4 lf.toArray false) (.seq (.region i5 lu.toArray true) (.region i6 lm.toArray false)))) (.region i7 li.toArray false))))).wp Try.prog Q a w := by
  refine wp_block ?_
  refine wp_loop (fun a' w' => ∃ k, k ≤ n ∧ Keeps 397 (Ev gw k (itR (stp f K) 0 k s) R) a' ∧ Cells16 w' gw (itR (stp f K) 0 k s).W ∧ w.grownBy w' (some gw)) (fun a' _ => n - slotN a' 17) ⟨0, Nat.zero_le _, hk, hW, World.grownBy.refl _ _⟩ ?_
  rintro a1 w1 ⟨k, hkn, ka, hW1, hG1⟩
  have hmu : slotN a1 17 = k := by
    unfold slotN
    rw [ka.at (t := 17) (v := .int .i64 ((k : Nat) : Int)) (by simp [Ev])]
    simp [intOf]
  generalize hs0 : itR (stp f K) 0 k s = s2 at *
  refine wp_seq_k fun K1 hK1 => ?_
  refine wp_seq_k fun K2 hK2 => ?_
  refine RegC_ok hc hc1 hc2 hR ka fun a2 k2 => ?_
  refine hK2 _ _ (wp_cond (k2.at (List.mem_cons_self ..)) ?_)
  have k2' : Keeps 397 (Ev gw k s2 R) a2 := ⟨k2.1, k2.2.1, fun x hx => k2.2.2 x (List.mem_cons_of_mem _ hx)⟩
  clear hK2 k2 ka
  by_cases hlt : k < n
  · rw [decide_eq_true hlt]
    refine wp_skip (hK1 _ _ ?_)
    clear hK1
    refine wp_seq_k fun K3 hK3 => wp_block ?_
    refine wp_seq_k fun K6 hK6 => ?_
    refine hf.ok _ _ _ _ _ _ _ hR k2' fun a5 k5 => hK6 _ _ ?_
    clear hK6 k2'
    refine wp_seq_k fun K7 hK7 => ?_
    refine RegU_ok hu hu1 hu2 hdu1 hdu2 hdf1 hdf2 hne (by omega) hW1 hR (fun c a d v w h => hQ c a d v w h) k5 fun a6 w6 hp6 hb6 k6 => hK7 _ _ ?_
    have hW6 := hW1.kept hb6
    have hG6 := grown_trans hG1 (grown_below hb6 _)
    clear hK7 k5 hW1 hG1
    refine RegM_ok hm hm1 hm2 hdu1 hdu2 hR k6 fun a7 k7 => hK3 _ _ ?_
    have k7' : Keeps 397 (Ev gw k (stp f K k s2) R) a7 := k7
    have hW7 : Cells16 w6 gw (stp f K k s2).W := hW6
    clear hK3 k6 k7 hW6
    refine RegI_ok hi' hi1 hi2 (by omega) hR k7' fun a8 k8 => ?_
    have hst : itR (stp f K) 0 (k + 1) s = stp f K k s2 := by
      show stp f K (0 + k) (itR (stp f K) 0 k s) = _
      rw [hs0, Nat.zero_add]
    refine ⟨⟨k + 1, by omega, ?_, ?_, hG6⟩, ?_⟩
    · rw [hst]; exact k8
    · rw [hst]; exact hW7
    · rw [hmu]
      have : slotN a8 17 = k + 1 := by
        unfold slotN
        rw [k8.at (t := 17) (v := .int .i64 ((k + 1 : Nat) : Int)) (by simp)]
        simp [intOf] <;> omega
      rw [this]
      omega
  · rw [decide_eq_false hlt]
    obtain rfl : k = n := by omega
    refine wp_exit ?_
    show (if B = B then Q .normal a2 w1 else _)
    rw [if_pos rfl]
    subst hs0
    exact h _ _ k2' hW1 hG1

/-- The words that are read out of the first i quarters of a block. -/
def ldK (p : List UInt8) (W : List Int) (i : Nat) : List Int := (ldWs p).take i ++ W.drop i
theorem ldWs_length (p : List UInt8) : (ldWs p).length = 16 := by simp [ldWs]
theorem ldK_zero (p : List UInt8) (W : List Int) : ldK p W 0 = W := rfl
theorem ldK_end (p : List UInt8) {W : List Int} (h : W.length = 16) : ldK p W 16 = ldWs p := by
  unfold ldK
  rw [List.take_of_length_le (by rw [ldWs_length]; exact Nat.le_refl _), List.drop_of_length_le (by omega), List.append_nil]
theorem ldK_step (p : List UInt8) {W : List Int} (h : W.length = 16) {i : Nat} (hi : i < 16) : (ldK p W i).set i (ldW p i) = ldK p W (i + 1) := by
  unfold ldK
  have h1 : ((ldWs p).take i).length = i := by rw [List.length_take, ldWs_length]; omega
  have h2 : (ldWs p)[i]'(by rw [ldWs_length]; exact hi) = ldW p i := by simp [ldWs]
  rw [List.set_append_right _ _ (by omega), h1, Nat.sub_self, List.take_succ_eq_append_getElem (by rw [ldWs_length]; exact hi), h2, List.drop_eq_getElem_cons (by omega), List.set_cons_zero, List.append_assoc]
  rfl
/-- What a frame holds while the words are read. -/
def Lv (gw g i pb po pn pc : Nat) (hh : Hs) : List (Nat × Value) :=
  [(4, .pointer (some ⟨gw, 0, none⟩)), (1, .slice (some ⟨pb, po, none⟩) pn pc), (0, .pointer (some ⟨g, 0, none⟩)), (5, .int .u32 hh.a), (6, .int .u32 hh.b), (7, .int .u32 hh.c), (8, .int .u32 hh.d), (9, .int .u32 hh.e), (10, .int .i64 ((i : Nat) : Int))]
theorem loopL_ok {Q : Exit → Act → World → Prop} {B B2 i1 i2 i3 i4 : Nat} {l4 l6 l7 l5 : List Oper} {a : Act} {w : World} {gw g pb po pn pc : Nat} {hh : Hs} {p : List UInt8} {W : List Int}
    (h4 : Rg4 l4) (h6 : Rg6 l6) (h7 : Rg7 l7) (h5 : Rg5 l5) (hpn : 64 ≤ pn) (hpl : p.length = pn) (hr : Rd w (some ⟨pb, po, none⟩) p) (hne : pb ≠ gw)
    (hQ : ∀ c a d v w, Q (.panic c) (a.put d v) w → Q (.panic c) a w) (hk : Keeps 397 (Lv gw g 0 pb po pn pc hh) a) (hW : Cells16 w gw W)
    (h : ∀ a' w', Keeps 397 (Lv gw g 16 pb po pn pc hh) a' → Cells16 w' gw (ldWs p) → w.grownBy w' (some gw) → Q .normal a' w') :
    (Code.block B (.loop (.seq (.seq (.region i1 l4.toArray false) (.cond (.tmp 61) .skip (.exit B))) (.seq (.block B2 (.seq (.region i2 l6.toArray false) (.region i3 l7.toArray true))) (.region i4 l5.toArray false))))).wp Try.prog Q a w := by
  have hWl := hW.1
  refine wp_block ?_
  refine wp_loop (fun a' w' => ∃ k, k ≤ 16 ∧ Keeps 397 (Lv gw g k pb po pn pc hh) a' ∧ Cells16 w' gw (ldK p W k) ∧ w.grownBy w' (some gw)) (fun a' _ => 16 - slotN a' 10) ⟨0, Nat.zero_le _, hk, hW, World.grownBy.refl _ _⟩ ?_
  rintro a1 w1 ⟨k, hkn, ka, hW1, hG1⟩
  have hmu : slotN a1 10 = k := by
    unfold slotN
    rw [ka.at (t := 10) (v := .int .i64 ((k : Nat) : Int)) (by simp [Lv])]
    simp [intOf]
  refine wp_seq_k fun K1 hK1 => ?_
  refine wp_seq_k fun K2 hK2 => ?_
  refine Rg4_ok h4 ka fun a2 k2 => ?_
  refine hK2 _ _ (wp_cond (k2.at (List.mem_cons_self ..)) ?_)
  have k2' : Keeps 397 (Lv gw g k pb po pn pc hh) a2 := ⟨k2.1, k2.2.1, fun x hx => k2.2.2 x (List.mem_cons_of_mem _ hx)⟩
  clear hK2 k2 ka
  by_cases hlt : k < 16
  · rw [decide_eq_true hlt]
    refine wp_skip (hK1 _ _ ?_)
    clear hK1
    refine wp_seq_k fun K3 hK3 => wp_block ?_
    refine wp_seq_k fun K6 hK6 => ?_
    refine Rg6_ok h6 hlt k2' fun a5 k5 => hK6 _ _ ?_
    clear hK6
    have hr1 : Rd w1 (some ⟨pb, po, none⟩) p := hr.grown hG1 (fun x hx => by cases hx; intro e; exact hne (Option.some.inj e))
    have k5' : Keeps 397 [(4, .pointer (some ⟨gw, 0, none⟩)), (1, .slice (some ⟨pb, po, none⟩) pn pc), (0, .pointer (some ⟨g, 0, none⟩)), (5, .int .u32 hh.a), (6, .int .u32 hh.b), (7, .int .u32 hh.c), (8, .int .u32 hh.d), (9, .int .u32 hh.e), (10, .int .i64 ((k : Nat) : Int)), (11, .int .i64 ((4 * k : Nat) : Int))] a5 :=
      ⟨k5.1, k5.2.1, fun x hx => k5.2.2 x (by simp at hx ⊢; rcases hx with rfl | rfl | rfl | rfl | rfl | rfl | rfl | rfl | rfl | rfl <;> simp)⟩
    refine Rg7_ok h7 hlt hpn hpl hr1 hW1 (fun c a d v w h => hQ c a d v w h) k5' fun a6 w6 k6 hW6 gr6 => hK3 _ _ ?_
    rw [ldK_step p hWl hlt] at hW6
    have hG6 := grown_trans hG1 gr6
    refine Rg5_ok h5 hlt k6 fun a8 k8 => ?_
    refine ⟨⟨k + 1, by omega, k8, hW6, hG6⟩, ?_⟩
    rw [hmu]
    have : slotN a8 10 = k + 1 := by
      unfold slotN
      rw [k8.at (t := 10) (v := .int .i64 ((k + 1 : Nat) : Int)) (by simp)]
      simp [intOf] <;> omega
    rw [this]; omega
  · rw [decide_eq_false hlt]
    obtain rfl : k = 16 := by omega
    refine wp_exit ?_
    show (if B = B then Q .normal a2 w1 else _)
    rw [if_pos rfl]
    rw [ldK_end p hWl] at hW1
    exact h _ _ k2' hW1 hG1
end Go.Proofs.Ytjmmkjdlkecmhaa
