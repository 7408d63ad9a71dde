/- The contract of the reference's Read, over digits of 32; what a strict reading takes. -/
import Derived.Test.YtcojcohipmoopaaDoorULaw
namespace Go.Proofs.YtcojcohipmoopaaDoor
open Go.RowKit
set_option linter.unusedVariables false
set_option linter.unusedSimpArgs false

theorem dec_cases : ∀ n : Fin 256, (dec32 n.val = 255 ∨ dec32 n.val < 32) ∧ ((List.range 32).find? fun k => B dg32 k == (upB (UInt8.ofNat n.val)).toNat) = (if dec32 n.val = 255 then none else some (dec32 n.val)) := by decide +kernel
theorem dv_cases (T : List UInt8) (i : Nat) : dv T i = 255 ∨ dv T i < 32 := (dec_cases ⟨B T i, B_lt T i⟩).1
theorem plc_dec (c : UInt8) (r : Int) (h : Plc dg32 (upB c).toNat r) : r = if dec32 c.toNat = 255 then -1 else ((dec32 c.toNat : Nat) : Int) := by
  have hc := (dec_cases ⟨c.toNat, c.toNat_lt⟩).2
  rw [show UInt8.ofNat (⟨c.toNat, c.toNat_lt⟩ : Fin 256).val = c by simp] at hc
  have hc' : ((List.range 32).find? fun k => B dg32 k == (upB c).toNat) = (if dec32 c.toNat = 255 then none else some (dec32 c.toNat)) := hc
  rcases h with ⟨k, hk, rfl, hb, hno⟩ | ⟨rfl, hno⟩
  · have hf : ((List.range 32).find? fun k => B dg32 k == (upB c).toNat) = some k := by
      rw [List.find?_range_eq_some]
      refine ⟨by simpa using hb, List.mem_range.2 hk, fun j hj => ?_⟩
      have := hno j hj
      simpa using this
    rw [hf] at hc'
    split at hc'
    · cases hc'
    · rename_i h255
      rw [if_neg h255, ← Option.some.inj hc']
  · have hf : ((List.range 32).find? fun k => B dg32 k == (upB c).toNat) = none := by
      rw [List.find?_eq_none]
      intro j hj
      have := hno j (List.mem_range.1 hj)
      simpa using this
    rw [hf] at hc'
    split at hc'
    · rename_i h255; rw [if_pos h255]
    · cases hc'
theorem B_up (T : List UInt8) (i : Nat) (hi : i < T.length) : B (T.map upB) i = (upB (T.getD i 0)).toNat := by
  unfold B
  simp [hi]
/-- What the number is where the first k signs are digits. -/
theorem hn_low (T : List UInt8) (h : ∀ i, i < 26 → dv T i < 32) (h7 : dv T 0 ≤ 7) : ∀ k, k ≤ 26 → hn T k < 256 ^ 16 := by
  have key : ∀ k, k < 26 → hn T (k + 1) < 8 * 32 ^ k := by
    intro k
    induction k with
    | zero => intro _; show 0 * 32 + dv T 0 < _; omega
    | succ k ih =>
      intro hk
      have h1 := ih (by omega)
      have h2 := h (k + 1) hk
      show hn T (k + 1) * 32 + dv T (k + 1) < _
      rw [Nat.pow_succ]
      generalize 32 ^ k = p at *
      omega
  intro k hk
  cases k with
  | zero => exact Nat.pow_pos (by decide)
  | succ k =>
    refine Nat.lt_of_lt_of_le (key k hk) ?_
    calc 8 * 32 ^ k ≤ 8 * 32 ^ 25 := Nat.mul_le_mul_left _ (Nat.pow_le_pow_right (by decide) (by omega))
      _ = 256 ^ 16 := by decide
theorem hn_high (T : List UInt8) (h7 : 8 ≤ dv T 0) : 256 ^ 16 ≤ hn T 26 := by
  have key : ∀ k, 8 * 32 ^ k ≤ hn T (k + 1) := by
    intro k
    induction k with
    | zero => show _ ≤ 0 * 32 + dv T 0; omega
    | succ k ih =>
      show _ ≤ hn T (k + 1) * 32 + dv T (k + 1)
      rw [Nat.pow_succ]
      generalize 32 ^ k = p at *
      omega
  exact Nat.le_trans (by decide) (key 25)
/-- The first digit is greater than 7 just if its sign is behind 7. -/
theorem first_sign : ∀ n : Fin 256, dec32 n.val ≠ 255 → (55 < n.val ↔ 8 ≤ dec32 n.val) := by decide +kernel
theorem takes_ok {T : List UInt8} (h : refuses T true = false) : (∀ i, i < 26 → dv T i < 32) ∧ ∀ k, k ≤ 26 → hn T k < 256 ^ 16 := by
  unfold refuses at h
  rw [Bool.true_and, Bool.or_eq_false_iff] at h
  have hv : ∀ i, i < 26 → dv T i < 32 := fun i hi => (dv_cases T i).resolve_left (anyBad_false h.1 i hi)
  have h55 : ¬ 55 < B T 0 := by simpa using h.2
  have h1 : ¬ 8 ≤ dv T 0 := fun h8 => h55 ((first_sign ⟨B T 0, B_lt T 0⟩ (anyBad_false h.1 0 (by decide))).2 h8)
  exact ⟨hv, hn_low T hv (by omega)⟩
theorem takes_not {T : List UInt8} (h : refuses T true = true) (hv : ∀ i, i < 26 → dv T i ≠ 255) : 256 ^ 16 ≤ hn T 26 := by
  unfold refuses at h
  rw [Bool.true_and, anyBad_no 26 hv, Bool.false_or, decide_eq_true_iff] at h
  exact hn_high T ((first_sign ⟨B T 0, B_lt T 0⟩ (hv 0 (by decide))).1 h)
/-- The carry ahead of byte j, and the bytes behind it turned. -/
def cyU (N d j : Nat) : Nat := (N % 256 ^ (16 - j) * 32 + d) / 256 ^ (16 - j)
def mulU (N M j : Nat) : List UInt8 := (be 16 N).take j ++ (be 16 M).drop j
theorem mulU_length (N M j : Nat) (h : j ≤ 16) : (mulU N M j).length = 16 := by simp [mulU, be_length]; omega
theorem mulU_all (N M : Nat) : mulU N M 16 = be 16 N := by simp [mulU, be_length, List.take_of_length_le, List.drop_of_length_le]
theorem mulU_end (N M : Nat) : mulU N M 0 = be 16 M := by simp [mulU]
theorem mulU_at (N M j : Nat) (h : j < 16) : B (mulU N M (j + 1)) j = B (be 16 N) j := by
  unfold B mulU
  rw [List.getD_eq_getElem?_getD, List.getD_eq_getElem?_getD, List.getElem?_append_left (by rw [List.length_take, be_length]; omega), List.getElem?_take, if_pos (by omega)]
theorem mulU_set (N M j : Nat) (h : j < 16) : (bvs (mulU N M (j + 1))).set j (.int .u8 (B (be 16 M) j : Nat)) = bvs (mulU N M j) := by
  have h1 : ((be 16 N).take j).length = j := by rw [List.length_take, be_length]; omega
  unfold mulU
  rw [List.take_succ_eq_append_getElem (by rw [be_length]; omega), List.append_assoc, bvs_append, bvs_append, List.set_append_right _ _ (by rw [bvs_length]; omega), bvs_length, h1, Nat.sub_self,
    show List.drop j (be 16 M) = (be 16 M)[j]'(by rw [be_length]; omega) :: List.drop (j + 1) (be 16 M) from List.drop_eq_getElem_cons (by rw [be_length]; omega)]
  congr 1
  have hb : B (be 16 M) j = ((be 16 M)[j]'(by rw [be_length]; omega)).toNat := by simp [B, be_length, h]
  rw [hb, bvs_append]
  rfl
theorem cyU_start (N d : Nat) : cyU N d 16 = d := by simp [cyU, Nat.mod_one]
theorem cyU_end (N d : Nat) (h : N < 256 ^ 16) : cyU N d 0 = (N * 32 + d) / 256 ^ 16 := by
  unfold cyU
  rw [Nat.sub_zero, Nat.mod_eq_of_lt h]
theorem cyU_step (N d q : Nat) (hq : q < 16) : (cyU N d (q + 1) + B (be 16 N) q * 32) / 256 = cyU N d q ∧ (cyU N d (q + 1) + B (be 16 N) q * 32) % 256 = B (be 16 (N * 32 + d)) q := by
  rw [B_be _ _ _ hq, B_be _ _ _ hq]
  unfold cyU
  rw [show 16 - (q + 1) = 15 - q by omega, show 16 - 1 - q = 15 - q by omega, show 16 - q = (15 - q) + 1 by omega]
  generalize 15 - q = m
  have hp : 0 < 256 ^ m := Nat.pow_pos (by decide)
  have e1 : N % 256 ^ (m + 1) = N / 256 ^ m % 256 * 256 ^ m + N % 256 ^ m := by
    rw [Nat.pow_succ, Nat.mod_mul, Nat.add_comm, Nat.mul_comm]
  have e2 : N * 32 + d = N / 256 ^ m * 32 * 256 ^ m + (N % 256 ^ m * 32 + d) := by
    have := Nat.div_add_mod N (256 ^ m)
    conv => lhs; rw [← this]
    rw [Nat.add_mul, Nat.mul_comm (256 ^ m), Nat.mul_right_comm, Nat.add_assoc]
  refine ⟨?_, ?_⟩
  · rw [e1, Nat.pow_succ, Nat.mul_comm (256 ^ m) 256, Nat.mul_comm 256 (256 ^ m), ← Nat.div_div_eq_div_mul]
    rw [show (N / 256 ^ m % 256 * 256 ^ m + N % 256 ^ m) * 32 + d = N / 256 ^ m % 256 * 32 * 256 ^ m + (N % 256 ^ m * 32 + d) by rw [Nat.add_mul, Nat.mul_right_comm, Nat.add_assoc]]
    rw [Nat.add_comm (N / 256 ^ m % 256 * 32 * 256 ^ m), Nat.add_mul_div_right _ _ hp]
  · conv => rhs; rw [e2, Nat.add_comm, Nat.add_mul_div_right _ _ hp]
    omega
theorem cyU_lt (N d q : Nat) (hd : d < 32) : cyU N d q < 64 := by
  unfold cyU
  rw [Nat.div_lt_iff_lt_mul (Nat.pow_pos (by decide))]
  have := Nat.mod_lt N (show 0 < 256 ^ (16 - q) from Nat.pow_pos (by decide))
  generalize 256 ^ (16 - q) = p at *
  omega
set_option maxHeartbeats 1000000 in
set_option maxRecDepth 100000 in
theorem sread_ok (T : List UInt8) (hT : T.length = 26) (w : World) :
    Calls Tryd.prog 9 #[str (T.map upB), .string ⟨dg32.toArray⟩, .int .i64 16] w fun e w' =>
      (refuses T true = false → ∃ g, e = .returned (.tuple #[.slice (some ⟨g, 0, none⟩) 16 16, .bool true]) ∧ Blk w' g (bvs (be 16 (hn T 26))) 5) ∧ (refuses T true = true → e = .returned (.tuple #[.slice none 0 0, .bool false])) ∧ Below w.heap.size w w' := by
  have hb := Below.refl w.heap.size w
  have LT := Lib.hid hT
  obtain ⟨s, hs⟩ : ∃ s : ByteArray, s = ⟨(T.map upB).toArray⟩ := ⟨_, rfl⟩
  have hsz : s.size = 26 := by rw [hs]; show (T.map upB).toArray.size = 26; simp [hT]
  have HS := Lib.hid hs
  unfold str
  rw [← hs]
  obtain ⟨D, hD⟩ : ∃ D : ByteArray, D = ⟨dg32.toArray⟩ := ⟨_, rfl⟩
  have hDz : D.size = 32 := by rw [hD]; rfl
  have HD := Lib.hid hD
  rw [← hD]
  clear hs hT hD
  go_enter Tryd.func9, Tryd.ntmps9
  go_wp2_with (at_make; refine wp_make_zero rfl rfl Tryd.underlying22 info5 rfl (n := 16) rfl rfl (by decide) (by decide) ?_)
  intro w1 b1 g1 s1
  clear s1
  have hw1 := hb.trans (below_grown g1)
  have b1' : Blk w1 w.heap.size (bvs (be 16 (hn T 0))) 5 := by
    rw [show bvs (be 16 (hn T 0)) = List.replicate 16 (Value.int .u8 0) from by show bvs (be 16 0) = _; kernel_rfl]
    exact b1
  have hgg := Nat.le_refl w.heap.size
  obtain ⟨gg, hg⟩ : ∃ gg, w.heap.size = gg := ⟨_, rfl⟩
  have HG : Hid (w.heap.size = gg) := Lib.hid hg
  have HGS : Hid (∀ v, Below w.heap.size w v → w.heap.size ≤ v.heap.size) := Lib.hid (fun v h => h.size)
  rw [hg] at b1' hw1 HGS ⊢
  clear hg b1 g1 hb hgg
  go_wp2
  go_loopw [16] (fun i wr => ∃ k : Nat, k ≤ 26 ∧ i = .int .i64 k ∧ Blk wr gg (bvs (be 16 (hn T k))) 5 ∧ Hid ((∀ j, j < k → dv T j ≠ 255) ∧ hn T k < 256 ^ 16) ∧ Below gg w wr) (fun i _ => 26 - (intOf i).toNat)
  case atStart => exact ⟨0, Nat.zero_le _, rfl, b1', Lib.hid ⟨fun j hj => absurd hj (Nat.not_lt_zero _), Nat.pow_pos (by decide)⟩, hw1⟩
  case round =>
    obtain ⟨k, hk, rfl, hB, HI, hw⟩ := hrel
    by_cases hlt : k < 26
    · have hget := sget HS.out k
      have hup := B_up T k (by rw [LT.out]; exact hlt)
      obtain ⟨b, hbb⟩ : ∃ b, B (T.map upB) k = b := ⟨_, rfl⟩
      rw [hbb] at hget
      have HP : Hid (∀ w', Calls Tryd.prog 16 #[.string D, .int .u8 (b : Int)] w' fun e w'' => e = .returned (.int .i64 (if dv T k = 255 then -1 else ((dv T k : Nat) : Int))) ∧ w'' = w') := Lib.hid (fun w' => (place_ok D dg32 HD.out b w' (by decide)).mono fun e w'' ⟨r, h1, h2, h3⟩ => by
        rw [← hbb, hup] at h2
        have := plc_dec _ _ h2
        exact ⟨by rw [h1, this]; rfl, h3⟩)
      clear hup hbb
      by_cases h255 : dv T k = 255
      · rw [if_pos h255] at HP
        have HK := Lib.hid h255
        clear h255
        go_wp2_with (go_at_call 16; refine (HP.out _).mono ?_)
        rintro e w3 ⟨rfl, rfl⟩
        go_wp2
        exact ret_tmp2 rfl rfl rfl rfl ⟨fun h => absurd HK.out (by have := (takes_ok h).1 k hlt; omega), fun _ => rfl, by rw [HG.out]; exact hw⟩
      · have hd32 := (dv_cases T k).resolve_left h255
        rw [if_neg h255] at HP
        have HKK : Hid (∀ j, j = k → dv T j ≠ 255) := Lib.hid (fun j e => by rw [e]; exact h255)
        have hstep : hn T (k + 1) = hn T k * 32 + dv T k := rfl
        have HST := Lib.hid hstep
        clear h255 hstep
        generalize dv T k = d at *
        generalize hn T k = N at *
        go_wp2_with (go_at_call 16; refine (HP.out _).mono ?_)
        rintro e w3 ⟨rfl, rfl⟩
        clear HP hget
        go_wp2
        go_loopw [10, 11] (fun c i wi => ∃ j : Nat, j ≤ 16 ∧ i = .int .i64 ((j : Int) - 1) ∧ c = .int .i64 (cyU N d j : Nat) ∧ Blk wi gg (bvs (mulU N (N * 32 + d) j)) 5 ∧ Below gg w wi) (fun _ i _ => (intOf i + 1).toNat)
        case atStart => exact ⟨16, Nat.le_refl _, rfl, by rw [cyU_start], by rw [mulU_all]; exact hB, hw⟩
        case round =>
          obtain ⟨j, hj, rfl, rfl, hBi, hwi⟩ := hrel
          rcases j with _ | q
          · have e0 : (((0 : Nat) : Int) - 1) = -1 := rfl
            rw [e0, cyU_end _ _ HI.out.2]
            rw [mulU_end, ← HST.out] at hBi
            by_cases hov : (N * 32 + d) / 256 ^ 16 = 0
            · have hM : hn T (k + 1) < 256 ^ 16 := by rw [HST.out]; exact (Nat.div_eq_zero_iff_lt (by decide)).1 hov
              rw [hov]
              have HI2 : Hid ((∀ j, j < k + 1 → dv T j ≠ 255) ∧ hn T (k + 1) < 256 ^ 16) := Lib.hid ⟨fun j hj => by
                by_cases e : j = k
                · exact HKK.out j e
                · exact HI.out.1 j (by omega), hM⟩
              clear hov hM
              go_wp2
              go_roundw
              case rel => exact ⟨k + 1, by omega, by go_num, hBi, HI2, hwi⟩
              case measure => simp [intOf]; omega
            · have hM : 256 ^ 16 ≤ hn T (k + 1) := by rw [HST.out]; exact Nat.le_of_not_lt fun h => hov (Nat.div_eq_of_lt h)
              have HM := Lib.hid hM
              obtain ⟨c, hc⟩ : ∃ c, (N * 32 + d) / 256 ^ 16 = c := ⟨_, rfl⟩
              rw [hc] at hov ⊢
              have hpos : (0 : Int) < (c : Int) := by omega
              clear hM hc hov
              go_wp2
              exact ret_tmp2 rfl rfl rfl rfl ⟨fun h => absurd HM.out (by have := (takes_ok h).2 (k + 1) (by omega); omega), fun _ => rfl, by rw [HG.out]; exact hwi⟩
          · have e0 : (((q + 1 : Nat) : Int) - 1) = (q : Int) := by omega
            rw [e0]
            have hq : q < 16 := by omega
            have hc := hBi.cell q
            rw [bvs_get _ _ (by rw [mulU_length _ _ _ hj]; exact hq), mulU_at _ _ _ hq] at hc
            obtain ⟨h1, h2⟩ := cyU_step N d q hq
            have hcy := cyU_lt N d (q + 1) hd32
            have hbl := B_lt (be 16 N) q
            have hset := mulU_set N (N * 32 + d) q hq
            rw [← h2] at hset
            generalize cyU N d (q + 1) = c at *
            generalize B (be 16 N) q = b' at *
            have H1 := Lib.hid h1
            have HSET := Lib.hid hset
            clear h1 h2 hset e0
            go_wp2_with (refine wp_store_cell (i := q) rfl rfl (by kernel_rfl) rfl rfl rfl hBi (by rw [bvs_length, mulU_length _ _ _ hj]; exact hq) ?_)
            intro w4 b4 g4 s4
            clear s4
            have hv : ((c : Int) + (b' : Int) * 32) % 256 = (((c + b' * 32) % 256 : Nat) : Int) := by omega
            rw [hv, HSET.out] at b4
            have hw4 := hwi.grown g4 (HGS.out _ hwi) (by rintro j ⟨⟩; exact Nat.le_refl _)
            have HV : Hid (((c : Int) + (b' : Int) * 32) / 256 = ((cyU N d q : Nat) : Int)) := by show _ = _; have := H1.out; omega
            clear hv g4 hBi hwi hc
            go_wp2
            go_roundw
            case rel => exact ⟨q, by omega, rfl, by rw [← HV.out], b4, hw4⟩
            case measure => simp [intOf]
    · obtain rfl : k = 26 := by omega
      go_wp2
      exact ret_tmp2 rfl rfl rfl rfl ⟨fun _ => ⟨_, rfl, hB⟩, fun h => absurd HI.out.2 (by have := takes_not h HI.out.1; omega), by rw [HG.out]; exact hw⟩
end Go.Proofs.YtcojcohipmoopaaDoor
