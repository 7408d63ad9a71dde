/- Contracts of the reference's Upper, Lower and Place. -/
import Derived.Test.YtcojcohipmoopaaDoorFree
namespace Go.Proofs.YtcojcohipmoopaaDoor
open Go.RowKit
set_option linter.unusedVariables false
set_option linter.unusedSimpArgs false
/-- The place of a sign among digits, or -1. -/
def Plc (dl : List UInt8) (c : Nat) (r : Int) : Prop := (∃ k : Nat, k < dl.length ∧ r = k ∧ B dl k = c ∧ ∀ j, j < k → B dl j ≠ c) ∨ (r = -1 ∧ ∀ j, j < dl.length → B dl j ≠ c)
theorem sget {s : ByteArray} {p : List UInt8} (hs : s = ⟨p.toArray⟩) (i : Nat) : ∀ h : i < s.size, (s[i]'h).toNat = B p i := by
  subst hs
  intro h
  have h' : i < p.length := by have : i < p.toArray.size := h; simpa using this
  show (p.toArray[i]'h).toNat = _
  simp [B, h']
theorem place_ok (s : ByteArray) (dl : List UInt8) (hs : s = ⟨dl.toArray⟩) (c : Nat) (w : World) (hl : dl.length ≤ 1000) :
    Calls Tryd.prog 16 #[.string s, .int .u8 (c : Int)] w fun e w' => ∃ r, e = .returned (.int .i64 r) ∧ Plc dl c r ∧ w' = w := by
  have hsz : s.size = dl.length := by rw [hs]; show dl.toArray.size = _; simp
  have HS := Lib.hid hs
  clear hs
  generalize hL : dl.length = L at *
  have HL := Lib.hid hL
  clear hL
  go_enter Tryd.func16, Tryd.ntmps16
  go_wp2
  go_loopw [8] (fun i wr => wr = w ∧ ∃ k : Nat, k ≤ L ∧ i = .int .i64 k ∧ ∀ j, j < k → B dl j ≠ c) (fun i _ => L - (intOf i).toNat)
  case atStart => exact ⟨rfl, 0, Nat.zero_le _, rfl, fun j hj => absurd hj (Nat.not_lt_zero _)⟩
  case round =>
    obtain ⟨rfl, k, hk, rfl, hno⟩ := hrel
    have HNO := Lib.hid hno
    clear hno
    by_cases hlt : k < L
    · have hg := sget HS.out k
      obtain ⟨b, hb⟩ : ∃ b, B dl k = b := ⟨_, rfl⟩
      rw [hb] at hg
      have HB := Lib.hid hb
      clear hb
      by_cases he : b = c
      · have hq : ((b : Int) == (c : Int)) = true := eqb_of he
        have HE := Lib.hid he
        clear he
        go_wp2
        go_ret
        exact ⟨_, rfl, .inl ⟨k, by rw [HL.out]; exact hlt, rfl, by rw [HB.out, HE.out], HNO.out⟩, rfl⟩
      · have hq : ((b : Int) == (c : Int)) = false := eqb_ne he
        have HE := Lib.hid he
        clear he
        go_wp2
        go_roundw
        case rel => exact ⟨by trivial, k + 1, by omega, by go_num, fun j hj => by
          by_cases e : j = k
          · rw [e, HB.out]; exact HE.out
          · exact HNO.out j (by omega)⟩
        case measure => simp [intOf]; omega
    · obtain rfl : k = L := by omega
      go_wp2
      go_ret
      exact ⟨_, rfl, .inr ⟨rfl, by rw [HL.out]; exact HNO.out⟩, rfl⟩
set_option maxRecDepth 100000 in
theorem upper_ok (p : List UInt8) (w : World) (hl : p.length ≤ 100000) :
    Calls Tryd.prog 10 #[str p] w fun e w' => e = .returned (str (p.map upB)) ∧ Below w.heap.size w w' := by
  obtain ⟨s, hs⟩ : ∃ s : ByteArray, s = ⟨p.toArray⟩ := ⟨_, rfl⟩
  have hsz : s.size = p.length := by rw [hs]; show p.toArray.size = _; simp
  have HS := Lib.hid hs
  unfold str
  rw [← hs]
  clear hs
  obtain ⟨L, hL⟩ : ∃ L, p.length = L := ⟨_, rfl⟩
  have HL := Lib.hid hL
  rw [hL] at hsz hl
  clear hL
  go_enter Tryd.func10, Tryd.ntmps10
  go_wp2_with (refine wp_of_string_f rfl rfl Tryd.underlying9 Tryd.underlying22 Tryd.underlying5 HS.out rfl HL.out ?_)
  intro g cap w2 f2 hg hb2 hcap
  have HF0 : Hid (Fre w2 g (turned upB p 0)) := Lib.hid (by rw [turned_zero]; exact f2)
  clear f2
  go_wp2
  go_loopw [10] (fun i wr => ∃ k : Nat, k ≤ L ∧ i = .int .i64 k ∧ Hid (Fre wr g (turned upB p k)) ∧ Below w.heap.size w wr) (fun i _ => L - (intOf i).toNat)
  case atStart => exact ⟨0, Nat.zero_le _, rfl, HF0, hb2⟩
  case round =>
    obtain ⟨k, hk, rfl, HF, hw⟩ := hrel
    clear HF0
    by_cases hlt : k < L
    · obtain ⟨c, hc⟩ : ∃ c, p.getD k 0 = c := ⟨_, rfl⟩
      have hB : B (turned upB p k) k = c.toNat := by rw [turned_at upB p k (by rw [HL.out]; exact hlt), ← hc]; rfl
      have hcell := (HF.out k (by rw [turned_length, HL.out]; exact hlt)).1
      rw [hB] at hcell
      have hset := turned_set upB p k (by rw [HL.out]; exact hlt)
      have hsame := turned_same upB p k (by rw [HL.out]; exact hlt)
      rw [hc] at hset hsame
      have HSET := Lib.hid hset
      have HSAME := Lib.hid hsame
      have hn := c.toNat_lt
      clear hset hsame hB hc
      by_cases hup : 97 ≤ c.toNat ∧ c.toNat ≤ 122
      · obtain ⟨h1, h2⟩ := hup
        have hv : (upB c) = c - 32 := by unfold upB; rw [if_pos ⟨UInt8.le_iff_toNat_le.2 h1, UInt8.le_iff_toNat_le.2 h2⟩]
        have hcn : ((upB c).toNat : Int) = (c.toNat : Int) - 32 := by rw [hv, UInt8.toNat_sub_of_le _ _ (UInt8.le_iff_toNat_le.2 (by show 32 ≤ c.toNat; omega))]; show ((c.toNat - 32 : Nat) : Int) = _; omega
        have HCN := Lib.hid hcn
        clear hv hcn
        go_wp2_with (refine wp_store_f rfl rfl (by kernel_rfl) rfl rfl HF.out (by rw [turned_length, HL.out]; exact hlt) (upB c) (by have := HCN.out; omega) hw hg ?_)
        intro w3 f3 hw3
        rw [HSET.out] at f3
        have F3 := Lib.hid f3
        clear f3
        go_wp2
        go_roundw
        case rel => exact ⟨k + 1, by omega, by go_num, F3, hw3⟩
        case measure => simp [intOf]; omega
      · have hs' : Hid (Fre wr g (turned upB p (k + 1))) := Lib.hid (by
          rw [HSAME.out (by unfold upB; rw [if_neg (fun h => hup (by have h1 := UInt8.le_iff_toNat_le.1 h.1; have h2 := UInt8.le_iff_toNat_le.1 h.2; exact ⟨h1, h2⟩))])]
          exact HF.out)
        by_cases h1 : 97 ≤ c.toNat
        · have h2 : ¬ (c.toNat : Int) ≤ 122 := by omega
          go_wp2
          go_roundw
          case rel => exact ⟨k + 1, by omega, by go_num, hs', hw⟩
          case measure => simp [intOf]; omega
        · go_wp2
          go_roundw
          case rel => exact ⟨k + 1, by omega, by go_num, hs', hw⟩
          case measure => simp [intOf]; omega
    · obtain rfl : k = L := by omega
      have hr : Rd wr (some ⟨g, 0, none⟩) (p.map upB) := by
        have := HF.out
        rw [← HL.out, turned_end] at this
        exact this.rd (by rw [List.length_map, HL.out]; omega)
      have HR := Lib.hid hr
      clear hr
      go_wp2_with (refine wp_to_string rfl rfl Tryd.underlying22 Tryd.underlying5 Tryd.underlying9 rfl HR.out (by rw [List.length_map]; exact HL.out) ?_)
      go_ret
      exact ⟨rfl, hw⟩
set_option maxRecDepth 100000 in
theorem lower_ok (p : List UInt8) (w : World) (hl : p.length ≤ 100000) :
    Calls Tryd.prog 7 #[str p] w fun e w' => e = .returned (str (p.map loB)) ∧ Below w.heap.size w w' := by
  obtain ⟨s, hs⟩ : ∃ s : ByteArray, s = ⟨p.toArray⟩ := ⟨_, rfl⟩
  have hsz : s.size = p.length := by rw [hs]; show p.toArray.size = _; simp
  have HS := Lib.hid hs
  unfold str
  rw [← hs]
  clear hs
  obtain ⟨L, hL⟩ : ∃ L, p.length = L := ⟨_, rfl⟩
  have HL := Lib.hid hL
  rw [hL] at hsz hl
  clear hL
  go_enter Tryd.func7, Tryd.ntmps7
  go_wp2_with (refine wp_of_string_f rfl rfl Tryd.underlying9 Tryd.underlying22 Tryd.underlying5 HS.out rfl HL.out ?_)
  intro g cap w2 f2 hg hb2 hcap
  have HF0 : Hid (Fre w2 g (turned loB p 0)) := Lib.hid (by rw [turned_zero]; exact f2)
  clear f2
  go_wp2
  go_loopw [10] (fun i wr => ∃ k : Nat, k ≤ L ∧ i = .int .i64 k ∧ Hid (Fre wr g (turned loB p k)) ∧ Below w.heap.size w wr) (fun i _ => L - (intOf i).toNat)
  case atStart => exact ⟨0, Nat.zero_le _, rfl, HF0, hb2⟩
  case round =>
    obtain ⟨k, hk, rfl, HF, hw⟩ := hrel
    clear HF0
    by_cases hlt : k < L
    · obtain ⟨c, hc⟩ : ∃ c, p.getD k 0 = c := ⟨_, rfl⟩
      have hB : B (turned loB p k) k = c.toNat := by rw [turned_at loB p k (by rw [HL.out]; exact hlt), ← hc]; rfl
      have hcell := (HF.out k (by rw [turned_length, HL.out]; exact hlt)).1
      rw [hB] at hcell
      have hset := turned_set loB p k (by rw [HL.out]; exact hlt)
      have hsame := turned_same loB p k (by rw [HL.out]; exact hlt)
      rw [hc] at hset hsame
      have HSET := Lib.hid hset
      have HSAME := Lib.hid hsame
      have hn := c.toNat_lt
      clear hset hsame hB hc
      by_cases hup : 65 ≤ c.toNat ∧ c.toNat ≤ 90
      · obtain ⟨h1, h2⟩ := hup
        have hv : (loB c) = c + 32 := by unfold loB; rw [if_pos ⟨UInt8.le_iff_toNat_le.2 h1, UInt8.le_iff_toNat_le.2 h2⟩]
        have hcn : ((loB c).toNat : Int) = (c.toNat : Int) + 32 := by rw [hv, UInt8.toNat_add]; show (((c.toNat + 32) % 256 : Nat) : Int) = _; omega
        have HCN := Lib.hid hcn
        clear hv hcn
        go_wp2_with (refine wp_store_f rfl rfl (by kernel_rfl) rfl rfl HF.out (by rw [turned_length, HL.out]; exact hlt) (loB c) (by have := HCN.out; omega) hw hg ?_)
        intro w3 f3 hw3
        rw [HSET.out] at f3
        have F3 := Lib.hid f3
        clear f3
        go_wp2
        go_roundw
        case rel => exact ⟨k + 1, by omega, by go_num, F3, hw3⟩
        case measure => simp [intOf]; omega
      · have hs' : Hid (Fre wr g (turned loB p (k + 1))) := Lib.hid (by
          rw [HSAME.out (by unfold loB; rw [if_neg (fun h => hup (by have h1 := UInt8.le_iff_toNat_le.1 h.1; have h2 := UInt8.le_iff_toNat_le.1 h.2; exact ⟨h1, h2⟩))])]
          exact HF.out)
        by_cases h1 : 65 ≤ c.toNat
        · have h2 : ¬ (c.toNat : Int) ≤ 90 := by omega
          go_wp2
          go_roundw
          case rel => exact ⟨k + 1, by omega, by go_num, hs', hw⟩
          case measure => simp [intOf]; omega
        · go_wp2
          go_roundw
          case rel => exact ⟨k + 1, by omega, by go_num, hs', hw⟩
          case measure => simp [intOf]; omega
    · obtain rfl : k = L := by omega
      have hr : Rd wr (some ⟨g, 0, none⟩) (p.map loB) := by
        have := HF.out
        rw [← HL.out, turned_end] at this
        exact this.rd (by rw [List.length_map, HL.out]; omega)
      have HR := Lib.hid hr
      clear hr
      go_wp2_with (refine wp_to_string rfl rfl Tryd.underlying22 Tryd.underlying5 Tryd.underlying9 rfl HR.out (by rw [List.length_map]; exact HL.out) ?_)
      go_ret
      exact ⟨rfl, hw⟩
end Go.Proofs.YtcojcohipmoopaaDoor
