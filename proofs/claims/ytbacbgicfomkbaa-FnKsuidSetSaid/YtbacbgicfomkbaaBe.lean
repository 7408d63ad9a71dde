/- Big-endian numbers: the plain words, and the contracts of the packages' beUint.. and bePutUint... -/
import Derived.Test.YtbacbgicfomkbaaLaws
namespace Go.Proofs.Ytbacbgicfomkbaa
open Go.RowKit

/-- The number n as so many bytes, the greatest first. -/
def be : Nat → Nat → List UInt8
  | 0, _ => []
  | m + 1, n => be m (n / 256) ++ [UInt8.ofNat n]
theorem be_length : ∀ (m n : Nat), (be m n).length = m
  | 0, _ => rfl
  | m + 1, n => by simp [be, be_length m]
theorem B_be : ∀ (m n i : Nat), i < m → B (be m n) i = n / 256 ^ (m - 1 - i) % 256
  | m + 1, n, i, h => by
    unfold be B
    rw [List.getD_eq_getElem?_getD, List.getElem?_append, be_length]
    by_cases hi : i < m
    · have := B_be m (n / 256) i hi
      unfold B at this
      rw [List.getD_eq_getElem?_getD] at this
      rw [if_pos hi, this, Nat.div_div_eq_div_mul, Nat.mul_comm, ← Nat.pow_succ, show (m - 1 - i).succ = m + 1 - 1 - i by omega]
    · obtain rfl : i = m := by omega
      simp
theorem bvs_getElem? (bs : List UInt8) (i : Nat) (h : i < bs.length) : (bvs bs)[i]? = some (.int .u8 (B bs i)) := bvs_get bs i h

theorem splice_nil {α : Type} (L : List α) (k : Nat) : splice L k [] = L := by simp [splice]
theorem splice_snoc {α : Type} (L l : List α) (off i : Nat) (v : α) (hv : l[i]? = some v) (hl : off + l.length ≤ L.length) : (splice L off (l.take i)).set (off + i) v = splice L off (l.take (i + 1)) := by
  have hi : i < l.length := (List.getElem?_eq_some_iff.1 hv).1
  apply List.ext_getElem?
  intro j
  simp only [splice, List.getElem?_set, List.getElem?_append, List.length_take, List.length_append, List.length_drop, List.getElem?_take, List.getElem?_drop]
  by_cases h1 : j < off
  · simp [h1, show min off L.length = off by omega, show off + i ≠ j by omega]
  · by_cases h2 : j < off + i
    · simp [h1, show min off L.length = off by omega, show off + i ≠ j by omega, show min i l.length = i by omega, show j - off < i by omega, show min (i + 1) l.length = i + 1 by omega, show j - off < i + 1 by omega]
    · by_cases h3 : j = off + i
      · subst h3
        simp [show min off L.length = off by omega, show min (i + 1) l.length = i + 1 by omega, show min i l.length = i by omega, hv]
        rw [if_pos (by omega), if_neg h1]
      · simp [h1, show min off L.length = off by omega, show off + i ≠ j by omega, show min i l.length = i by omega, show ¬ j - off < i by omega, show min (i + 1) l.length = i + 1 by omega, show ¬ j - off < i + 1 by omega, show off + i + (j - off - i) = off + (i + 1) + (j - off - (i + 1)) by omega]


theorem be16_at (v k : Nat) (hk : k < 2) : (v : Int) / 2 ^ (8 - 8 * k) % 256 = (B (be 2 v) k : Int) := by
  rw [B_be 2 v k hk, show 8 - 8 * k = 8 * (2 - 1 - k) by omega, show (256 : Nat) = 2 ^ 8 from rfl, ← Nat.pow_mul]
  simp


theorem be32_at (v k : Nat) (hk : k < 4) : (v : Int) / 2 ^ (24 - 8 * k) % 256 = (B (be 4 v) k : Int) := by
  rw [B_be 4 v k hk, show 24 - 8 * k = 8 * (4 - 1 - k) by omega, show (256 : Nat) = 2 ^ 8 from rfl, ← Nat.pow_mul]
  simp


theorem be64_at (v k : Nat) (hk : k < 8) : (v : Int) / 2 ^ (56 - 8 * k) % 256 = (B (be 8 v) k : Int) := by
  rw [B_be 8 v k hk, show 56 - 8 * k = 8 * (8 - 1 - k) by omega, show (256 : Nat) = 2 ^ 8 from rfl, ← Nat.pow_mul]
  simp

theorem ks_put16 (g off len cap v : Nat) (cs : List Value) (t : TypeId) (w : World) (hg : Blk w g cs t) (hl : 2 ≤ len) (hlc : len ≤ 9223372036854775807) (hfit : off + 2 ≤ cs.length) :
    Calls Try.prog 72 #[.slice (some ⟨g, off, none⟩) len cap, .int .u16 v] w fun e w' => e = .returned (.tuple #[]) ∧ Blk w' g (splice cs off (bvs (be 2 v))) t ∧ w.grownBy w' (some g) ∧ w'.heap.size = w.heap.size := by
  obtain ⟨u0, hu0⟩ : ∃ u, cs[off + 1]? = some u := ⟨_, List.getElem?_eq_getElem (by omega)⟩
  have c0 : w.cell? ⟨g, off + 1, none⟩ = some (cs[off + 1]'(by omega)) := by rw [hg.cell]; exact List.getElem?_eq_getElem (by omega)
  go_enter Try.func72, Try.ntmps72
  go_wp2
  go_loopw [4] (fun i wr => ∃ k : Nat, k ≤ 2 ∧ i = .int .i64 k ∧ Blk wr g (splice cs off ((bvs (be 2 v)).take k)) t ∧ w.grownBy wr (some g) ∧ wr.heap.size = w.heap.size) (fun i _ => 2 - (intOf i).toNat)
  case atStart => exact ⟨0, by omega, rfl, by rw [List.take_zero, splice_nil]; exact hg, World.grownBy.refl _ _, rfl⟩
  case round =>
    obtain ⟨k, hk, rfl, hB, hG, hS⟩ := hrel
    by_cases hlt : k < 2
    · have hv := be16_at v k hlt
      have hlen : (bvs (be 2 v)).length = 2 := by rw [bvs_length, be_length]
      have hsn := splice_snoc cs (bvs (be 2 v)) off k _ (bvs_get (be 2 v) k (by rw [be_length]; exact hlt)) (by omega)
      have hsl : (splice cs off ((bvs (be 2 v)).take k)).length = cs.length := length_splice _ _ _ (by rw [List.length_take]; omega)
      have HS := Lib.hid hsn
      have HV := Lib.hid hv
      have HL := Lib.hid hsl
      have HZ := Lib.hid hS
      clear hsn hv hsl hlen hS
      go_wp2_with (refine wp_store_cell rfl rfl (by kernel_rfl) rfl rfl rfl hB (by rw [HL.out]; omega) ?_)
      intro w2 b2 g2 s2
      rw [HV.out, HS.out] at b2
      rw [HZ.out] at s2
      have hG2 := grown_trans hG g2
      clear hB hG g2
      go_wp2
      go_roundw
      case rel => exact ⟨k + 1, by omega, by go_num, b2, hG2, s2⟩
      case measure => simp [intOf]; omega
    · obtain rfl : k = 2 := by omega
      have hlen : (bvs (be 2 v)).take 2 = bvs (be 2 v) := List.take_of_length_le (by rw [bvs_length, be_length]; omega)
      rw [hlen] at hB
      clear hlen
      go_wp2
      go_end0
      exact ⟨rfl, hB, hG, hS⟩
theorem ks_put32 (g off len cap v : Nat) (cs : List Value) (t : TypeId) (w : World) (hg : Blk w g cs t) (hl : 4 ≤ len) (hlc : len ≤ 9223372036854775807) (hfit : off + 4 ≤ cs.length) :
    Calls Try.prog 66 #[.slice (some ⟨g, off, none⟩) len cap, .int .u32 v] w fun e w' => e = .returned (.tuple #[]) ∧ Blk w' g (splice cs off (bvs (be 4 v))) t ∧ w.grownBy w' (some g) ∧ w'.heap.size = w.heap.size := by
  obtain ⟨u0, hu0⟩ : ∃ u, cs[off + 1]? = some u := ⟨_, List.getElem?_eq_getElem (by omega)⟩
  have c0 : w.cell? ⟨g, off + 3, none⟩ = some (cs[off + 3]'(by omega)) := by rw [hg.cell]; exact List.getElem?_eq_getElem (by omega)
  go_enter Try.func66, Try.ntmps66
  go_wp2
  go_loopw [4] (fun i wr => ∃ k : Nat, k ≤ 4 ∧ i = .int .i64 k ∧ Blk wr g (splice cs off ((bvs (be 4 v)).take k)) t ∧ w.grownBy wr (some g) ∧ wr.heap.size = w.heap.size) (fun i _ => 4 - (intOf i).toNat)
  case atStart => exact ⟨0, by omega, rfl, by rw [List.take_zero, splice_nil]; exact hg, World.grownBy.refl _ _, rfl⟩
  case round =>
    obtain ⟨k, hk, rfl, hB, hG, hS⟩ := hrel
    by_cases hlt : k < 4
    · have hv := be32_at v k hlt
      have hlen : (bvs (be 4 v)).length = 4 := by rw [bvs_length, be_length]
      have hsn := splice_snoc cs (bvs (be 4 v)) off k _ (bvs_get (be 4 v) k (by rw [be_length]; exact hlt)) (by omega)
      have hsl : (splice cs off ((bvs (be 4 v)).take k)).length = cs.length := length_splice _ _ _ (by rw [List.length_take]; omega)
      have HS := Lib.hid hsn
      have HV := Lib.hid hv
      have HL := Lib.hid hsl
      have HZ := Lib.hid hS
      clear hsn hv hsl hlen hS
      go_wp2_with (refine wp_store_cell rfl rfl (by kernel_rfl) rfl rfl rfl hB (by rw [HL.out]; omega) ?_)
      intro w2 b2 g2 s2
      rw [HV.out, HS.out] at b2
      rw [HZ.out] at s2
      have hG2 := grown_trans hG g2
      clear hB hG g2
      go_wp2
      go_roundw
      case rel => exact ⟨k + 1, by omega, by go_num, b2, hG2, s2⟩
      case measure => simp [intOf]; omega
    · obtain rfl : k = 4 := by omega
      have hlen : (bvs (be 4 v)).take 4 = bvs (be 4 v) := List.take_of_length_le (by rw [bvs_length, be_length]; omega)
      rw [hlen] at hB
      clear hlen
      go_wp2
      go_end0
      exact ⟨rfl, hB, hG, hS⟩
theorem ks_put64 (g off len cap v : Nat) (cs : List Value) (t : TypeId) (w : World) (hg : Blk w g cs t) (hl : 8 ≤ len) (hlc : len ≤ 9223372036854775807) (hfit : off + 8 ≤ cs.length) :
    Calls Try.prog 88 #[.slice (some ⟨g, off, none⟩) len cap, .int .u64 v] w fun e w' => e = .returned (.tuple #[]) ∧ Blk w' g (splice cs off (bvs (be 8 v))) t ∧ w.grownBy w' (some g) ∧ w'.heap.size = w.heap.size := by
  obtain ⟨u0, hu0⟩ : ∃ u, cs[off + 1]? = some u := ⟨_, List.getElem?_eq_getElem (by omega)⟩
  have c0 : w.cell? ⟨g, off + 7, none⟩ = some (cs[off + 7]'(by omega)) := by rw [hg.cell]; exact List.getElem?_eq_getElem (by omega)
  go_enter Try.func88, Try.ntmps88
  go_wp2
  go_loopw [4] (fun i wr => ∃ k : Nat, k ≤ 8 ∧ i = .int .i64 k ∧ Blk wr g (splice cs off ((bvs (be 8 v)).take k)) t ∧ w.grownBy wr (some g) ∧ wr.heap.size = w.heap.size) (fun i _ => 8 - (intOf i).toNat)
  case atStart => exact ⟨0, by omega, rfl, by rw [List.take_zero, splice_nil]; exact hg, World.grownBy.refl _ _, rfl⟩
  case round =>
    obtain ⟨k, hk, rfl, hB, hG, hS⟩ := hrel
    by_cases hlt : k < 8
    · have hv := be64_at v k hlt
      have hlen : (bvs (be 8 v)).length = 8 := by rw [bvs_length, be_length]
      have hsn := splice_snoc cs (bvs (be 8 v)) off k _ (bvs_get (be 8 v) k (by rw [be_length]; exact hlt)) (by omega)
      have hsl : (splice cs off ((bvs (be 8 v)).take k)).length = cs.length := length_splice _ _ _ (by rw [List.length_take]; omega)
      have HS := Lib.hid hsn
      have HV := Lib.hid hv
      have HL := Lib.hid hsl
      have HZ := Lib.hid hS
      clear hsn hv hsl hlen hS
      go_wp2_with (refine wp_store_cell rfl rfl (by kernel_rfl) rfl rfl rfl hB (by rw [HL.out]; omega) ?_)
      intro w2 b2 g2 s2
      rw [HV.out, HS.out] at b2
      rw [HZ.out] at s2
      have hG2 := grown_trans hG g2
      clear hB hG g2
      go_wp2
      go_roundw
      case rel => exact ⟨k + 1, by omega, by go_num, b2, hG2, s2⟩
      case measure => simp [intOf]; omega
    · obtain rfl : k = 8 := by omega
      have hlen : (bvs (be 8 v)).take 8 = bvs (be 8 v) := List.take_of_length_le (by rw [bvs_length, be_length]; omega)
      rw [hlen] at hB
      clear hlen
      go_wp2
      go_end0
      exact ⟨rfl, hB, hG, hS⟩

/-- The number that bytes are, the greatest first. -/
def num (bs : List UInt8) : Nat := bs.foldl (fun n b => n * 256 + b.toNat) 0
theorem num_snoc (bs : List UInt8) (k : Nat) (h : k < bs.length) : num (bs.take (k + 1)) = num (bs.take k) * 256 + B bs k := by
  rw [List.take_succ_eq_append_getElem h, num, List.foldl_append]
  simp [num, B, h]
theorem num_lt (bs : List UInt8) : num bs < 256 ^ bs.length := by
  have key : ∀ (l : List UInt8) (n : Nat), l.foldl (fun n b => n * 256 + b.toNat) n < (n + 1) * 256 ^ l.length := by
    intro l
    induction l with
    | nil => intro n; simp
    | cons b l ih =>
      intro n
      have hb := UInt8.toNat_lt b
      refine Nat.lt_of_lt_of_le (ih _) ?_
      rw [List.length_cons, Nat.pow_succ, Nat.mul_comm (256 ^ l.length) 256, ← Nat.mul_assoc]
      exact Nat.mul_le_mul_right _ (show n * 256 + b.toNat + 1 ≤ (n + 1) * 256 by omega)
  simpa [num] using key bs 0


theorem step16 (n b k : Nat) (hn : n < 256 ^ k) (hk : k < 2) (hb : b < 256) : bits .or .u16 (((n : Int) * 256) % 65536) (((b : Int)) % 65536) = ((n * 256 + b : Nat) : Int) := by
  have h1 : 256 ^ k ≤ 256 ^ 1 := Nat.pow_le_pow_right (by omega) (by omega)
  have h2 : n < 256 := Nat.lt_of_lt_of_le hn (by simpa using h1)
  have e1 : ((n : Int) * 256) % 65536 = ((n * 256 : Nat) : Int) := by omega
  have e2 : ((b : Int)) % 65536 = ((b : Nat) : Int) := by omega
  rw [e1, e2, u16_or_nat _ _ (by omega) (by omega), nat_join 8 (n * 256) b (by omega) (by omega)]


theorem step32 (n b k : Nat) (hn : n < 256 ^ k) (hk : k < 4) (hb : b < 256) : bits .or .u32 (((n : Int) * 256) % 4294967296) (((b : Int)) % 4294967296) = ((n * 256 + b : Nat) : Int) := by
  have h1 : 256 ^ k ≤ 256 ^ 3 := Nat.pow_le_pow_right (by omega) (by omega)
  have h2 : n < 16777216 := Nat.lt_of_lt_of_le hn (by simpa using h1)
  have e1 : ((n : Int) * 256) % 4294967296 = ((n * 256 : Nat) : Int) := by omega
  have e2 : ((b : Int)) % 4294967296 = ((b : Nat) : Int) := by omega
  rw [e1, e2, u32_or_nat _ _ (by omega) (by omega), nat_join 8 (n * 256) b (by omega) (by omega)]


theorem step64 (n b k : Nat) (hn : n < 256 ^ k) (hk : k < 8) (hb : b < 256) : bits .or .u64 (IntKind.u64.wrap ((n : Int) * 256)) (IntKind.u64.wrap ((b : Int))) = ((n * 256 + b : Nat) : Int) := by
  have h1 : 256 ^ k ≤ 256 ^ 7 := Nat.pow_le_pow_right (by omega) (by omega)
  have h2 : n < 72057594037927936 := Nat.lt_of_lt_of_le hn (by simpa using h1)
  have e1 : IntKind.u64.wrap ((n : Int) * 256) = ((n * 256 : Nat) : Int) := by rw [IntKind.wrap_u64]; omega
  have e2 : IntKind.u64.wrap ((b : Int)) = ((b : Nat) : Int) := by rw [IntKind.wrap_u64]; omega
  rw [e1, e2, u64_or_nat _ _ (by omega) (by omega), nat_join 8 (n * 256) b (by omega) (by omega)]

theorem ks_get32 (ad : Option Addr) (cap : Nat) (bs : List UInt8) (w : World) (hr : Rd w ad bs) (hl : 4 ≤ bs.length) :
    Calls Try.prog 71 #[.slice ad bs.length cap] w fun e w' => e = .returned (.int .u32 (num (bs.take 4))) ∧ w = w' := by
  obtain ⟨hm, h0⟩ := hr
  obtain ⟨b, off, rfl, hc⟩ := h0.resolve_left (by intro h; simp [h] at hl)
  have c0 := hc 3 (by omega)
  go_enter Try.func71, Try.ntmps71
  go_wp2
  go_loop [3, 4] (fun v i => ∃ k : Nat, k ≤ 4 ∧ i = .int .i64 k ∧ v = .int .u32 (num (bs.take k))) (fun _ i => 4 - (intOf i).toNat)
  case atStart => exact ⟨0, by omega, rfl, rfl⟩
  case round =>
    obtain ⟨k, hk, rfl, rfl⟩ := hrel
    by_cases hlt : k < 4
    · have ck := hc k (by omega)
      have hn : num (bs.take k) < 256 ^ k := by have := num_lt (bs.take k); rwa [List.length_take, Nat.min_eq_left (by omega)] at this
      have H := Lib.hid (num_snoc bs k (by omega))
      have S := Lib.hid (step32 _ _ k hn hlt (B_lt bs k))
      clear hn
      go_wp2
      go_round
      case rel => exact ⟨k + 1, by omega, by go_num, by first | rw [S.out, H.out] | rw [IntKind.wrap_u16, IntKind.wrap_u16, S.out, H.out]⟩
      case measure => simp [intOf]; omega
    · obtain rfl : k = 4 := by omega
      go_wp2
      go_ret
      exact ⟨rfl, rfl⟩
theorem ks_get64 (ad : Option Addr) (cap : Nat) (bs : List UInt8) (w : World) (hr : Rd w ad bs) (hl : 8 ≤ bs.length) :
    Calls Try.prog 83 #[.slice ad bs.length cap] w fun e w' => e = .returned (.int .u64 (num (bs.take 8))) ∧ w = w' := by
  obtain ⟨hm, h0⟩ := hr
  obtain ⟨b, off, rfl, hc⟩ := h0.resolve_left (by intro h; simp [h] at hl)
  have c0 := hc 7 (by omega)
  go_enter Try.func83, Try.ntmps83
  go_wp2
  go_loop [3, 4] (fun v i => ∃ k : Nat, k ≤ 8 ∧ i = .int .i64 k ∧ v = .int .u64 (num (bs.take k))) (fun _ i => 8 - (intOf i).toNat)
  case atStart => exact ⟨0, by omega, rfl, rfl⟩
  case round =>
    obtain ⟨k, hk, rfl, rfl⟩ := hrel
    by_cases hlt : k < 8
    · have ck := hc k (by omega)
      have hn : num (bs.take k) < 256 ^ k := by have := num_lt (bs.take k); rwa [List.length_take, Nat.min_eq_left (by omega)] at this
      have H := Lib.hid (num_snoc bs k (by omega))
      have S := Lib.hid (step64 _ _ k hn hlt (B_lt bs k))
      clear hn
      go_wp2
      go_round
      case rel => exact ⟨k + 1, by omega, by go_num, by first | rw [S.out, H.out] | rw [IntKind.wrap_u16, IntKind.wrap_u16, S.out, H.out]⟩
      case measure => simp [intOf]; omega
    · obtain rfl : k = 8 := by omega
      go_wp2
      go_ret
      exact ⟨rfl, rfl⟩
end Go.Proofs.Ytbacbgicfomkbaa
