/- The reference's More and Less: the number that bytes are, and one more or less. -/
import Derived.Test.YtbacbgicfomkbaaTextK
namespace Go.Proofs.Ytbacbgicfomkbaa
open Go.RowKit
set_option linter.unusedVariables false

theorem num_zeros : ∀ m : Nat, num (List.replicate m 0) = 0
  | 0 => rfl
  | m + 1 => by
    have := num_zeros m
    rw [List.replicate_succ', num_append, this]
    simp [num]
theorem num_ones : ∀ m : Nat, num (List.replicate m 255) + 1 = 256 ^ m
  | 0 => rfl
  | m + 1 => by
    have := num_ones m
    have h1 : num [(255 : UInt8)] = 255 := rfl
    rw [List.replicate_succ', num_append, h1, Nat.pow_succ, List.length_singleton, Nat.pow_one]
    omega
theorem cut_at (x : List UInt8) (i : Nat) (h : i < x.length) : x = x.take i ++ ([UInt8.ofNat (B x i)] ++ x.drop (i + 1)) := by
  have e : UInt8.ofNat (B x i) = x[i] := by
    unfold B
    rw [List.getD_eq_getElem?_getD, List.getElem?_eq_getElem h]
    simp
  rw [e, List.singleton_append, ← List.drop_eq_getElem_cons h, List.take_append_drop]
theorem num_at (y z : List UInt8) (b m : Nat) (hb : b < 256) (hz : z.length = m) : num (y ++ ([UInt8.ofNat b] ++ z)) = (num y * 256 + b) * 256 ^ m + num z := by
  have h1 : num [UInt8.ofNat b] = b := by simp [num]; omega
  rw [num_append, num_append, h1, List.length_append, hz, List.length_singleton, Nat.pow_add, Nat.pow_one, Nat.add_mul, Nat.mul_assoc]
  omega
/-- One more: the last byte that is not 255. -/
theorem more_done (x : List UInt8) (i n : Nat) (hn : x.length = n) (h : i < n) (hd : x.drop (i + 1) = List.replicate (n - (i + 1)) 255) (hb : B x i < 255) :
    be n (num x + 1) = x.take i ++ ([UInt8.ofNat (B x i + 1)] ++ List.replicate (n - (i + 1)) 0) ∧ num x + 1 < 256 ^ n := by
  subst hn
  have h1 := num_at (x.take i) (x.drop (i + 1)) (B x i) _ (by omega) rfl
  rw [← cut_at x i h, hd, List.length_replicate] at h1
  have h2 := num_at (x.take i) (List.replicate (x.length - (i + 1)) 0) (B x i + 1) _ (by omega) List.length_replicate
  rw [num_zeros] at h2
  have h3 := num_ones (x.length - (i + 1))
  have e : num x + 1 = num (x.take i ++ ([UInt8.ofNat (B x i + 1)] ++ List.replicate (x.length - (i + 1)) 0)) := by
    rw [h1, h2, ← Nat.add_assoc, Nat.add_mul (num (x.take i) * 256 + B x i) 1]
    omega
  have hl : (x.take i ++ ([UInt8.ofNat (B x i + 1)] ++ List.replicate (x.length - (i + 1)) 0)).length = x.length := by
    simp; omega
  have h4 := num_lt (x.take i ++ ([UInt8.ofNat (B x i + 1)] ++ List.replicate (x.length - (i + 1)) 0))
  have h5 := be_num (x.take i ++ ([UInt8.ofNat (B x i + 1)] ++ List.replicate (x.length - (i + 1)) 0))
  rw [hl] at h4 h5
  rw [e]
  exact ⟨h5, h4⟩
/-- One less: the last byte that is not 0. -/
theorem less_done (x : List UInt8) (i n : Nat) (hn : x.length = n) (h : i < n) (hd : x.drop (i + 1) = List.replicate (n - (i + 1)) 0) (hb : 0 < B x i) :
    be n (num x - 1) = x.take i ++ ([UInt8.ofNat (B x i - 1)] ++ List.replicate (n - (i + 1)) 255) ∧ 0 < num x := by
  subst hn
  have hB := B_lt x i
  have h1 := num_at (x.take i) (x.drop (i + 1)) (B x i) _ (by omega) rfl
  rw [← cut_at x i h, hd, List.length_replicate, num_zeros] at h1
  have h2 := num_at (x.take i) (List.replicate (x.length - (i + 1)) 255) (B x i - 1) _ (by omega) List.length_replicate
  have h3 := num_ones (x.length - (i + 1))
  have h6 : 0 < 256 ^ (x.length - (i + 1)) := Nat.pow_pos (by decide)
  have e0 : (num (x.take i) * 256 + B x i) * 256 ^ (x.length - (i + 1)) = (num (x.take i) * 256 + (B x i - 1)) * 256 ^ (x.length - (i + 1)) + 256 ^ (x.length - (i + 1)) := by
    conv => rhs; rw [← Nat.succ_mul]
    congr 1
    omega
  have e : num x - 1 = num (x.take i ++ ([UInt8.ofNat (B x i - 1)] ++ List.replicate (x.length - (i + 1)) 255)) := by
    rw [h1, h2, e0]
    omega
  have hl : (x.take i ++ ([UInt8.ofNat (B x i - 1)] ++ List.replicate (x.length - (i + 1)) 255)).length = x.length := by
    simp; omega
  have h5 := be_num (x.take i ++ ([UInt8.ofNat (B x i - 1)] ++ List.replicate (x.length - (i + 1)) 255))
  rw [hl] at h5
  rw [e]
  refine ⟨h5, ?_⟩
  rw [h1, e0]
  omega
/-- The first k bytes of x, and the same byte behind them. -/
def tailed (x : List UInt8) (c : UInt8) (k : Nat) : List UInt8 := x.take k ++ List.replicate (x.length - k) c
theorem tailed_length (x : List UInt8) (c : UInt8) (k : Nat) (h : k ≤ x.length) : (tailed x c k).length = x.length := by simp [tailed]; omega
theorem tailed_all (x : List UInt8) (c : UInt8) : tailed x c x.length = x := by simp [tailed]
theorem B_tailed (x : List UInt8) (c : UInt8) (k : Nat) (h : k < x.length) : B (tailed x c (k + 1)) k = B x k := by
  unfold B tailed
  rw [List.getD_eq_getElem?_getD, List.getD_eq_getElem?_getD, List.getElem?_append_left (by simp; omega), List.getElem?_take, if_pos (by omega)]
theorem tailed_set (x : List UInt8) (c : UInt8) (k : Nat) (h : k < x.length) (v : Nat) (hv : v < 256) (more : List Value) :
    (bvs (tailed x c (k + 1)) ++ more).set k (.int .u8 v) = bvs (x.take k ++ ([UInt8.ofNat v] ++ List.replicate (x.length - (k + 1)) c)) ++ more := by
  have ht : (x.take k).length = k := by rw [List.length_take]; omega
  rw [List.set_append_left _ _ (by rw [bvs_length, tailed_length _ _ _ (by omega)]; exact h), tailed, List.take_succ_eq_append_getElem h, List.append_assoc, bvs_append, List.set_append_right _ _ (by rw [bvs_length, ht]; exact Nat.le_refl _), bvs_length, ht, Nat.sub_self]
  rw [bvs_append, bvs_append, bvs_append]
  have e : bv (UInt8.ofNat v) = .int .u8 v := by simp [bv]; omega
  simp [bvs, e]
theorem tailed_next (x : List UInt8) (c : UInt8) (k : Nat) (h : k < x.length) : x.take k ++ ([UInt8.ofNat c.toNat] ++ List.replicate (x.length - (k + 1)) c) = tailed x c k := by
  unfold tailed
  rw [show x.length - k = (x.length - (k + 1)) + 1 by omega, List.replicate_succ]
  simp
theorem drop_one (x : List UInt8) (k c n : Nat) (hn : x.length = n) (h : k < n) (hd : x.drop (k + 1) = List.replicate (n - (k + 1)) (UInt8.ofNat c)) (hb : B x k = c) : x.drop k = List.replicate (n - k) (UInt8.ofNat c) := by
  subst hn
  rw [List.drop_eq_getElem_cons h, hd, show x.length - k = (x.length - (k + 1)) + 1 by omega, List.replicate_succ]
  congr 1
  unfold B at hb
  rw [List.getD_eq_getElem?_getD, List.getElem?_eq_getElem h] at hb
  rw [← hb]
  simp
theorem more_end (x : List UInt8) (n : Nat) (hn : x.length = n) (h : Hid (x.drop 0 = List.replicate (n - 0) 255)) : Hid (¬ (num x + 1 < 256 ^ n)) := by
  have h' := h.out
  rw [List.drop_zero, Nat.sub_zero] at h'
  rw [h', num_ones]
  exact Lib.hid (Nat.lt_irrefl _)
theorem less_end (x : List UInt8) (n : Nat) (hn : x.length = n) (h : Hid (x.drop 0 = List.replicate (n - 0) 0)) : Hid (¬ (0 < num x)) := by
  have h' := h.out
  rw [List.drop_zero, Nat.sub_zero] at h'
  rw [h', num_zeros]
  exact Lib.hid (Nat.lt_irrefl _)
theorem more_step (x : List UInt8) (k n : Nat) (hn : x.length = n) (h : k + 1 ≤ n) (hd : Hid (x.drop (k + 1) = List.replicate (n - (k + 1)) 255)) (he : B x k = 255) (more : List Value) :
    Hid ((bvs (tailed x 0 (k + 1)) ++ more).set k (.int .u8 0) = bvs (tailed x 0 k) ++ more) := by
  refine Lib.hid ?_
  have e := tailed_set x 0 k (by omega) 0 (by decide) more
  rw [show x.take k ++ ([UInt8.ofNat 0] ++ List.replicate (x.length - (k + 1)) 0) = tailed x 0 k from tailed_next x 0 k (by omega)] at e
  exact e
theorem less_step (x : List UInt8) (k n : Nat) (hn : x.length = n) (h : k + 1 ≤ n) (hd : Hid (x.drop (k + 1) = List.replicate (n - (k + 1)) 0)) (he : B x k = 0) (more : List Value) :
    Hid ((bvs (tailed x 255 (k + 1)) ++ more).set k (.int .u8 255) = bvs (tailed x 255 k) ++ more) := by
  refine Lib.hid ?_
  have e := tailed_set x 255 k (by omega) 255 (by decide) more
  rw [show x.take k ++ ([UInt8.ofNat 255] ++ List.replicate (x.length - (k + 1)) 255) = tailed x 255 k from tailed_next x 255 k (by omega)] at e
  exact e
theorem more_set (x : List UInt8) (k n : Nat) (hn : x.length = n) (h : k + 1 ≤ n) (he : ¬ B x k = 255) (more : List Value) :
    Hid ((bvs (tailed x 0 (k + 1)) ++ more).set k (.int .u8 ((B x k + 1 : Nat) : Int)) = bvs (x.take k ++ ([UInt8.ofNat (B x k + 1)] ++ List.replicate (n - (k + 1)) 0)) ++ more) := by
  have := B_lt x k
  subst hn
  exact Lib.hid (tailed_set x 0 k (by omega) _ (by omega) more)
theorem less_set (x : List UInt8) (k n : Nat) (hn : x.length = n) (h : k + 1 ≤ n) (he : ¬ B x k = 0) (more : List Value) :
    Hid ((bvs (tailed x 255 (k + 1)) ++ more).set k (.int .u8 ((B x k - 1 : Nat) : Int)) = bvs (x.take k ++ ([UInt8.ofNat (B x k - 1)] ++ List.replicate (n - (k + 1)) 255)) ++ more) := by
  have := B_lt x k
  subst hn
  exact Lib.hid (tailed_set x 255 k (by omega) _ (by omega) more)
set_option maxRecDepth 100000 in
theorem more_any (a1 : Option Addr) (x : List UInt8) (c1 : Nat) (n : Nat) (w : World) (h1 : Rd w a1 x) (hx : x.length = n) (h0 : 0 < n) (hn : n ≤ 2147483647) :
    Calls Try.prog 28 #[.slice a1 n c1] w fun e w' => ∃ g cap ok, e = .returned (.tuple #[.slice (some ⟨g, 0, none⟩) n cap, .bool ok]) ∧ (ok = true → Rd w' (some ⟨g, 0, none⟩) (be n (num x + 1))) ∧ (ok = true ↔ num x + 1 < 256 ^ n) ∧ Below w.heap.size w w' := by
  have hb := Below.refl w.heap.size w
  have o1 := OwnB.empty w w.heap.size 5 (Nat.le_refl _)
  have hb1 := hb.alloc (Nat.le_refl _) (.cells #[] 5)
  have r1 := h1.kept hb1
  have L := Lib.hid hx
  clear hx
  go_enter Try.func28, Try.ntmps28
  go_wp2_with (at_builtin; refine wp_append_rd rfl rfl Try.underlying22 info5 rfl rfl rfl o1 r1 L.out (by rw [L.out]; simp; omega) (by simp) ?_)
  intro v2 w2 o2 g2
  have hb2 := hb1.grown g2 (by simp) (fun k hk => (o1.lt k hk).1)
  obtain ⟨g, cap, more, rfl, B2, hg⟩ := o2.blk L.out h0
  clear o2 g2 o1 r1 hb1 h1
  go_wp2
  go_loopw [5] (fun i wr => ∃ k : Nat, k ≤ n ∧ i = .int .i64 ((k : Int) - 1) ∧ Hid (x.drop k = List.replicate (n - k) 255) ∧ Blk wr g (bvs (tailed x 0 k) ++ more) 5 ∧ Below w.heap.size w wr) (fun i _ => (intOf i + 1).toNat)
  case atStart => exact ⟨n, Nat.le_refl _, rfl, Lib.hid (by rw [Nat.sub_self, List.drop_of_length_le (by rw [L.out]; exact Nat.le_refl _)]; rfl), by rw [← L.out, tailed_all]; exact B2, hb2⟩
  case round =>
    obtain ⟨k, hk, rfl, hD, hB, hw⟩ := hrel
    rcases k with _ | k
    · have e0 : (((0 : Nat) : Int) - 1) = -1 := rfl
      rw [e0]
      have H : Hid (¬ (num x + 1 < 256 ^ n)) := more_end x n L.out hD
      clear hD
      go_wp2
      refine ret_tmp2 rfl rfl rfl rfl ?_
      exact ⟨_, _, _, rfl, (fun h => by cases h), ⟨fun h => (by cases h), fun h => absurd h H.out⟩, hw⟩
    · have e0 : (((k + 1 : Nat) : Int) - 1) = (k : Int) := by omega
      rw [e0]
      have hc := hB.cell k
      rw [List.getElem?_append_left (by rw [bvs_length, tailed_length _ _ _ (by rw [L.out]; exact hk), L.out]; omega), bvs_get _ _ (by rw [tailed_length _ _ _ (by rw [L.out]; exact hk), L.out]; omega), B_tailed _ _ _ (by rw [L.out]; omega)] at hc
      have hl : k < (bvs (tailed x 0 (k + 1)) ++ more).length := by rw [List.length_append, bvs_length, tailed_length _ _ _ (by rw [L.out]; exact hk), L.out]; omega
      have hb255 := B_lt x k
      by_cases he : B x k = 255
      · have hd : Hid _ := more_step x k n L.out hk hD he more
        have HE : Hid (x.drop k = List.replicate (n - k) 255) := drop_one x k 255 n L.out hk hD.out he
        clear hD
        rw [he] at hc
        go_wp2_with (refine wp_store_cell rfl rfl (by kernel_rfl) rfl rfl rfl hB hl ?_)
        intro w3 b3 g3 s3
        rw [hd.out] at b3
        have hw3 := hw.grown g3 hw.size (by rintro j ⟨⟩; exact hg)
        have hc3 : w3.cell? ⟨g, k, none⟩ = some (.int .u8 0) := by
          rw [b3.cell, ← hd.out, List.getElem?_set_self hl]
        clear s3 g3 hB hw hc
        go_wp2
        go_roundw
        case rel => exact ⟨k, by omega, rfl, HE, b3, hw3⟩
        case measure => simp [intOf]
      · obtain ⟨hdone, hlt⟩ := more_done x k n L.out (by omega) hD.out (by omega)
        have HD : Hid _ := more_set x k n L.out hk he more
        have HN := Lib.hid hdone
        have HL := Lib.hid hlt
        clear hD hdone hlt
        generalize hbe : B x k = b at *
        have HB := Lib.hid hbe
        clear hbe
        go_wp2_with (refine wp_store_cell rfl rfl (by kernel_rfl) rfl rfl rfl hB hl ?_)
        intro w3 b3 g3 s3
        have hv : ((b : Int) + 1) = ((b + 1 : Nat) : Int) := by omega
        have hc3 : w3.cell? ⟨g, k, none⟩ = some (.int .u8 ((b : Int) + 1)) := by rw [b3.cell, List.getElem?_set_self hl]
        rw [hv] at b3
        clear hv
        have hne : (((b : Int) + 1) != 0) = true := by rw [bne_iff_ne]; omega
        rw [HD.out] at b3
        have hw3 := hw.grown g3 hw.size (by rintro j ⟨⟩; exact hg)
        clear s3 g3 hB hw hc
        go_wp2
        refine ret_tmp2 rfl rfl rfl rfl ?_
        refine ⟨_, _, _, rfl, (fun _ => ?_), ⟨fun _ => HL.out, fun _ => rfl⟩, hw3⟩
        rw [HN.out]
        exact b3.rdMore (by simp; rw [L.out]; omega)
theorem more_nil (a1 : Option Addr) (c1 : Nat) (w : World) :
    Calls Try.prog 28 #[.slice a1 0 c1] w fun e w' => (∃ v, e = .returned (.tuple #[v, .bool false])) ∧ Below w.heap.size w w' := by
  have hb := Below.refl w.heap.size w
  have o1 := OwnB.empty w w.heap.size 5 (Nat.le_refl _)
  have hb1 := hb.alloc (Nat.le_refl _) (.cells #[] 5)
  have r1 : Rd (w.alloc (.cells #[] 5)) a1 [] := ⟨by simp, .inl rfl⟩
  go_enter Try.func28, Try.ntmps28
  go_wp2_with (at_builtin; refine wp_append_rd rfl rfl Try.underlying22 info5 rfl rfl rfl o1 r1 rfl (by simp) (by simp) ?_)
  intro v2 w2 o2 g2
  have hb2 := hb1.grown g2 (by simp) (fun k hk => (o1.lt k hk).1)
  obtain ⟨a, cap, rfl, -, -⟩ := o2.rd
  clear o2 g2 o1 r1 hb1
  go_wp2
  go_loopw [5] (fun i wr => i = .int .i64 (-1) ∧ Below w.heap.size w wr) (fun i _ => 0)
  case atStart => exact ⟨rfl, hb2⟩
  case round =>
    obtain ⟨rfl, hw⟩ := hrel
    go_wp2
    exact ret_tmp2 rfl rfl rfl rfl ⟨⟨_, rfl⟩, hw⟩
set_option maxRecDepth 100000 in
theorem less_any (a1 : Option Addr) (x : List UInt8) (c1 : Nat) (n : Nat) (w : World) (h1 : Rd w a1 x) (hx : x.length = n) (h0 : 0 < n) (hn : n ≤ 2147483647) :
    Calls Try.prog 31 #[.slice a1 n c1] w fun e w' => ∃ g cap ok, e = .returned (.tuple #[.slice (some ⟨g, 0, none⟩) n cap, .bool ok]) ∧ (ok = true → Rd w' (some ⟨g, 0, none⟩) (be n (num x - 1))) ∧ (ok = true ↔ 0 < num x) ∧ Below w.heap.size w w' := by
  have hb := Below.refl w.heap.size w
  have o1 := OwnB.empty w w.heap.size 5 (Nat.le_refl _)
  have hb1 := hb.alloc (Nat.le_refl _) (.cells #[] 5)
  have r1 := h1.kept hb1
  have L := Lib.hid hx
  clear hx
  go_enter Try.func31, Try.ntmps31
  go_wp2_with (at_builtin; refine wp_append_rd rfl rfl Try.underlying22 info5 rfl rfl rfl o1 r1 L.out (by rw [L.out]; simp; omega) (by simp) ?_)
  intro v2 w2 o2 g2
  have hb2 := hb1.grown g2 (by simp) (fun k hk => (o1.lt k hk).1)
  obtain ⟨g, cap, more, rfl, B2, hg⟩ := o2.blk L.out h0
  clear o2 g2 o1 r1 hb1 h1
  go_wp2
  go_loopw [5] (fun i wr => ∃ k : Nat, k ≤ n ∧ i = .int .i64 ((k : Int) - 1) ∧ Hid (x.drop k = List.replicate (n - k) 0) ∧ Blk wr g (bvs (tailed x 255 k) ++ more) 5 ∧ Below w.heap.size w wr) (fun i _ => (intOf i + 1).toNat)
  case atStart => exact ⟨n, Nat.le_refl _, rfl, Lib.hid (by rw [Nat.sub_self, List.drop_of_length_le (by rw [L.out]; exact Nat.le_refl _)]; rfl), by rw [← L.out, tailed_all]; exact B2, hb2⟩
  case round =>
    obtain ⟨k, hk, rfl, hD, hB, hw⟩ := hrel
    rcases k with _ | k
    · have e0 : (((0 : Nat) : Int) - 1) = -1 := rfl
      rw [e0]
      have H : Hid (¬ (0 < num x)) := less_end x n L.out hD
      clear hD
      go_wp2
      refine ret_tmp2 rfl rfl rfl rfl ?_
      exact ⟨_, _, _, rfl, (fun h => by cases h), ⟨fun h => (by cases h), fun h => absurd h H.out⟩, hw⟩
    · have e0 : (((k + 1 : Nat) : Int) - 1) = (k : Int) := by omega
      rw [e0]
      have hc := hB.cell k
      rw [List.getElem?_append_left (by rw [bvs_length, tailed_length _ _ _ (by rw [L.out]; exact hk), L.out]; omega), bvs_get _ _ (by rw [tailed_length _ _ _ (by rw [L.out]; exact hk), L.out]; omega), B_tailed _ _ _ (by rw [L.out]; omega)] at hc
      have hl : k < (bvs (tailed x 255 (k + 1)) ++ more).length := by rw [List.length_append, bvs_length, tailed_length _ _ _ (by rw [L.out]; exact hk), L.out]; omega
      have hb255 := B_lt x k
      by_cases he : B x k = 0
      · have hd : Hid _ := less_step x k n L.out hk hD he more
        have HE : Hid (x.drop k = List.replicate (n - k) 0) := drop_one x k 0 n L.out hk hD.out he
        clear hD
        rw [he] at hc
        go_wp2_with (refine wp_store_cell rfl rfl (by kernel_rfl) rfl rfl rfl hB hl ?_)
        intro w3 b3 g3 s3
        rw [hd.out] at b3
        have hw3 := hw.grown g3 hw.size (by rintro j ⟨⟩; exact hg)
        have hc3 : w3.cell? ⟨g, k, none⟩ = some (.int .u8 255) := by
          rw [b3.cell, ← hd.out, List.getElem?_set_self hl]
        clear s3 g3 hB hw hc
        go_wp2
        go_roundw
        case rel => exact ⟨k, by omega, rfl, HE, b3, hw3⟩
        case measure => simp [intOf]
      · obtain ⟨hdone, hlt⟩ := less_done x k n L.out (by omega) hD.out (by omega)
        have HD : Hid _ := less_set x k n L.out hk he more
        have HN := Lib.hid hdone
        have HL := Lib.hid hlt
        clear hD hdone hlt
        generalize hbe : B x k = b at *
        have HB := Lib.hid hbe
        clear hbe
        go_wp2_with (refine wp_store_cell rfl rfl (by kernel_rfl) rfl rfl rfl hB hl ?_)
        intro w3 b3 g3 s3
        have hv : ((b : Int) - 1) = ((b - 1 : Nat) : Int) := by omega
        have hc3 : w3.cell? ⟨g, k, none⟩ = some (.int .u8 ((b : Int) - 1)) := by rw [b3.cell, List.getElem?_set_self hl]
        rw [hv] at b3
        clear hv
        have hne : (((b : Int) - 1) != 255) = true := by rw [bne_iff_ne]; omega
        rw [HD.out] at b3
        have hw3 := hw.grown g3 hw.size (by rintro j ⟨⟩; exact hg)
        clear s3 g3 hB hw hc
        go_wp2
        refine ret_tmp2 rfl rfl rfl rfl ?_
        refine ⟨_, _, _, rfl, (fun _ => ?_), ⟨fun _ => HL.out, fun _ => rfl⟩, hw3⟩
        rw [HN.out]
        exact b3.rdMore (by simp; rw [L.out]; omega)
theorem less_nil (a1 : Option Addr) (c1 : Nat) (w : World) :
    Calls Try.prog 31 #[.slice a1 0 c1] w fun e w' => (∃ v, e = .returned (.tuple #[v, .bool false])) ∧ Below w.heap.size w w' := by
  have hb := Below.refl w.heap.size w
  have o1 := OwnB.empty w w.heap.size 5 (Nat.le_refl _)
  have hb1 := hb.alloc (Nat.le_refl _) (.cells #[] 5)
  have r1 : Rd (w.alloc (.cells #[] 5)) a1 [] := ⟨by simp, .inl rfl⟩
  go_enter Try.func31, Try.ntmps31
  go_wp2_with (at_builtin; refine wp_append_rd rfl rfl Try.underlying22 info5 rfl rfl rfl o1 r1 rfl (by simp) (by simp) ?_)
  intro v2 w2 o2 g2
  have hb2 := hb1.grown g2 (by simp) (fun k hk => (o1.lt k hk).1)
  obtain ⟨a, cap, rfl, -, -⟩ := o2.rd
  clear o2 g2 o1 r1 hb1
  go_wp2
  go_loopw [5] (fun i wr => i = .int .i64 (-1) ∧ Below w.heap.size w wr) (fun i _ => 0)
  case atStart => exact ⟨rfl, hb2⟩
  case round =>
    obtain ⟨rfl, hw⟩ := hrel
    go_wp2
    exact ret_tmp2 rfl rfl rfl rfl ⟨⟨_, rfl⟩, hw⟩
end Go.Proofs.Ytbacbgicfomkbaa
