/- Contracts of package ulid: bytes to a ULID, its order, its text. -/
import Derived.Test.YtpnpgckpjlbmdaaTextK
import Derived.Test.YtpnpgckpjlbmdaaCmp
namespace Go.Proofs.Ytpnpgckpjlbmdaa
open Go.RowKit

/-- Sixteen zero bytes. -/
def Z16 : List Value := List.replicate 16 (.int .u8 0)
theorem ulArr : Arr Try.prog 50 16 Z16 where
  und := ⟨_, Try.underlying50, rfl⟩
  size := by kernel_rfl
  zero := fun w => by kernel_rfl
  len := rfl
/-- What UnmarshalBinary says of bytes of another length. -/
def errData : Value := .iface 67 (.string ⟨#[117, 108, 105, 100, 58, 32, 98, 97, 100, 32, 100, 97, 116, 97, 32, 115, 105, 122, 101, 32, 119, 104, 101, 110, 32, 117, 110, 109, 97, 114, 115, 104, 97, 108, 105, 110, 103]⟩)

set_option maxRecDepth 100000 in
theorem unmarshal_ok {B0 : Nat} {w0 : World} (g : Nat) (cs : List Value) (t : TypeId) (a1 : Option Addr) (x : List UInt8) (c1 : Nat) (w : World) (hb : Below B0 w0 w) (hg : Blk w g cs t) (hB : B0 ≤ g) (hcs : cs.length = 16) (h1 : Rd w a1 x) (hx : x.length = 16) :
    Calls Try.prog 22 #[.pointer (some ⟨g, 0, none⟩), .slice a1 16 c1] w fun e w' => e = .returned .nilIface ∧ Blk w' g (bvs x) t ∧ w.grownBy w' (some g) ∧ Below B0 w0 w' := by
  have L := Lib.hid hx
  have C := Lib.hid hcs
  clear hx hcs
  go_enter Try.func22, Try.ntmps22
  go_wp2_with (refine wp_copy_all (n := 16) hb rfl rfl Try.underlying22 (by kernel_rfl) rfl rfl hg x h1 hB rfl rfl C.out L.out ?_)
  intro w2 b2 g2 s2 hb2
  clear s2
  go_wp2
  go_ret
  exact ⟨rfl, b2, g2, hb2⟩
theorem unmarshal_bad (g : Nat) (a1 : Option Addr) (n c1 : Nat) (w : World) (hne : ((n : Int) != 16) = true) :
    Calls Try.prog 22 #[.pointer (some ⟨g, 0, none⟩), .slice a1 n c1] w fun e w' => e = .returned errData ∧ w = w' := by
  go_enter Try.func22, Try.ntmps22
  go_wp2
  go_ret
  exact ⟨rfl, rfl⟩

def d32 : List UInt8 := [48, 49, 50, 51, 52, 53, 54, 55, 56, 57, 65, 66, 67, 68, 69, 70, 71, 72, 74, 75, 77, 78, 80, 81, 82, 83, 84, 86, 87, 88, 89, 90]
theorem d32_at (r : Nat) (h : r < 32) : ((⟨d32.toArray⟩ : ByteArray)[r]'(show r < (⟨d32.toArray⟩ : ByteArray).size from h)) = d32.getD r 0 := by
  have h1 : r < d32.length := h
  have h2 : d32.toArray[r]'(by simpa using h1) = d32.getD r 0 := by simp [h1]
  exact h2
theorem and8_1 : ∀ p : Nat, p < 256 → bits .and .u8 (p : Int) 1 = ((p % 2 : Nat) : Int) := by decide +kernel
theorem and8_3 : ∀ p : Nat, p < 256 → bits .and .u8 (p : Int) 3 = ((p % 4 : Nat) : Int) := by decide +kernel
theorem and8_7 : ∀ p : Nat, p < 256 → bits .and .u8 (p : Int) 7 = ((p % 8 : Nat) : Int) := by decide +kernel
theorem and8_15 : ∀ p : Nat, p < 256 → bits .and .u8 (p : Int) 15 = ((p % 16 : Nat) : Int) := by decide +kernel
theorem and8_31 : ∀ p : Nat, p < 256 → bits .and .u8 (p : Int) 31 = ((p % 32 : Nat) : Int) := by decide +kernel
theorem and8_62 : ∀ p : Nat, p < 256 → bits .and .u8 (p : Int) 62 = ((p % 64 / 2 * 2 : Nat) : Int) := by decide +kernel
theorem and8_124 : ∀ p : Nat, p < 256 → bits .and .u8 (p : Int) 124 = ((p % 128 / 4 * 4 : Nat) : Int) := by decide +kernel
theorem and8_248 : ∀ p : Nat, p < 256 → bits .and .u8 (p : Int) 248 = ((p / 8 * 8 : Nat) : Int) := by decide +kernel
theorem and8_240 : ∀ p : Nat, p < 256 → bits .and .u8 (p : Int) 240 = ((p / 16 * 16 : Nat) : Int) := by decide +kernel
theorem and8_224 : ∀ p : Nat, p < 256 → bits .and .u8 (p : Int) 224 = ((p / 32 * 32 : Nat) : Int) := by decide +kernel
theorem and8_192 : ∀ p : Nat, p < 256 → bits .and .u8 (p : Int) 192 = ((p / 64 * 64 : Nat) : Int) := by decide +kernel
theorem and8_128 : ∀ p : Nat, p < 256 → bits .and .u8 (p : Int) 128 = ((p / 128 * 128 : Nat) : Int) := by decide +kernel
theorem or8 (m A C : Nat) (hA : A < 256) (hC : C < 256) (h1 : A % 2 ^ m = 0) (h2 : C < 2 ^ m) : bits .or .u8 (A : Int) (C : Int) = ((A + C : Nat) : Int) := by
  rw [u8_or_nat _ _ hA hC, nat_join m A C h1 h2]
/-- The digit at k lies in the bytes from q on. -/
theorem digk (N k q r : Nat) (h : 5 * (25 - k) = 8 * q + r) : N / 32 ^ (25 - k) = N / 256 ^ q / 2 ^ r := by
  rw [Nat.div_div_eq_div_mul, show (32 : Nat) = 2 ^ 5 from rfl, show (256 : Nat) = 2 ^ 8 from rfl, ← Nat.pow_mul, ← Nat.pow_mul, ← Nat.pow_add, h]
theorem ul_step (T : List UInt8) (cs : List Value) (N k E : Nat) (hT : T = writ d32 26 N) (hk : k < 26) (hcs : cs.length = 26) (hE : N / 32 ^ (25 - k) % 32 = E) (hlt : E < 32) :
    bvs (T.take (k + 1)) ++ cs.drop (k + 1) = (bvs (T.take k) ++ cs.drop k).set k (.int .u8 (((⟨d32.toArray⟩ : ByteArray)[E]'(show E < (⟨d32.toArray⟩ : ByteArray).size from hlt)).toNat)) := by
  subst hT
  have lT := writ_length d32 26 N
  rw [d32_at E hlt, List.set_append_right _ _ (by rw [bvs_length, List.length_take]; omega), bvs_length, List.length_take, lT, Nat.min_eq_left (by omega), Nat.sub_self]
  rw [List.take_succ_eq_append_getElem (by omega), bvs_append, List.append_assoc]
  congr 1
  rw [List.drop_eq_getElem_cons (i := k) (by omega), List.set_cons_zero]
  have hv : (writ d32 26 N)[k]'(by omega) = d32.getD E 0 := by
    have := B_writ d32 26 N k hk
    simp only [writ, List.getElem_map, List.getElem_range]
    rw [show d32.length = 32 from rfl, show 26 - 1 - k = 25 - k by omega, hE]
  rw [hv]
  rfl
set_option maxHeartbeats 4000000 in
set_option maxRecDepth 100000 in
theorem marshal_ok (gd : Nat) (cs : List Value) (td : TypeId) (x : List UInt8) (w : World) (hd : Blk w gd cs td) (hl : cs.length = 26) (hx : x.length = 16) :
    Calls Try.prog 34 #[.agg (bvs x).toArray, .slice (some ⟨gd, 0, none⟩) 26 26] w fun e w' => e = .returned .nilIface ∧ Blk w' gd (bvs (writ d32 26 (num x))) td ∧ w.grownBy w' (some gd) := by
  have hb := Below.refl w.heap.size w
  have C := Lib.hid hl
  have hgd := hd.lt
  have hB : ∀ j, j < 16 → B x j = num x / 256 ^ (15 - j) % 256 := by
    intro j hj
    have := B_be 16 (num x) j hj
    rw [← this, ← hx, be_num]
  have HB := Lib.hid hB
  have hN := num_lt x
  rw [hx] at hN
  have HN := Lib.hid hN
  have hcell : ∀ (w' : World) (t : TypeId), Blk w' w.heap.size (bvs x) t → ∀ j, j < 16 → w'.cell? ⟨w.heap.size, j, none⟩ = some (.int .u8 (B x j)) := by
    intro w' t h j hj
    rw [h.cell, bvs_get _ _ (by rw [hx]; exact hj)]
  have HC := Lib.hid hcell
  clear hx hl hcell hB hN
  generalize num x = N at *
  obtain ⟨T, hT⟩ : ∃ T, T = writ d32 26 N := ⟨_, rfl⟩
  rw [← hT]
  have HT := Lib.hid hT
  clear hT
  go_enter Try.func34, Try.ntmps34
  go_wp2_with (refine wp_box_blk ulArr hb rfl rfl rfl rfl (Nat.le_refl _) ?_)
  intro w0 b0 g0 s0 hb0
  clear s0
  have d0 : Blk w0 gd (bvs (T.take 0) ++ cs.drop 0) td := hd.kept hb0
  have hne : ¬ w.heap.size = gd := by omega
  have hl0 : ∀ i, i ≤ 26 → (bvs (T.take i) ++ cs.drop i).length = 26 := by
    intro i hi
    rw [List.length_append, bvs_length, List.length_take, List.length_drop, C.out, HT.out, writ_length]
    omega
  have HL := Lib.hid hl0
  clear hd hb hb0 hl0
  have c0 := HC.out w0 _ b0 0 (by decide)
  have l0 := B_lt x 0
  have e0 := and8_224 (B x 0) l0
  go_wp2_with (refine wp_store_cell rfl rfl (by kernel_rfl) rfl rfl rfl d0 (by rw [HL.out 0 (by decide)]; decide) ?_)
  intro w1 D g1 s
  have d1 : Blk w1 gd (bvs (T.take 1) ++ cs.drop 1) td := by
    have hE : N / 32 ^ (25 - 0) % 32 = B x 0 / 32 := by
      rw [digk N 0 15 5 rfl]
      have h1 := HB.out 0 (by decide)
      have h2 : N / 256 ^ 15 < 256 := by rw [Nat.div_lt_iff_lt_mul (by decide)]; exact HN.out
      rw [h1, show 15 - 0 = 15 from rfl]
      generalize N / 256 ^ 15 = A at *
      omega
    rw [ul_step T cs N 0 _ HT.out (by decide) C.out hE (by omega)]
    exact D
  have b1 := b0.grown g1 (by intro e; exact hne (Option.some.inj e))
  clear D s d0 b0 c0 l0 e0
  have G1 := grown_trans (grown_none g0 _) g1
  clear g1 g0
  have c0 := HC.out w1 _ b1 0 (by decide)
  have l0 := B_lt x 0
  have e0 := and8_31 (B x 0) l0
  go_wp2_with (refine wp_store_cell rfl rfl (by kernel_rfl) rfl rfl rfl d1 (by rw [HL.out 1 (by decide)]; decide) ?_)
  intro w2 D g2 s
  have d2 : Blk w2 gd (bvs (T.take 2) ++ cs.drop 2) td := by
    have hE : N / 32 ^ (25 - 1) % 32 = B x 0 % 32 := by
      rw [digk N 1 15 0 rfl]
      have h1 := HB.out 0 (by decide)
      have h2 : N / 256 ^ 15 < 256 := by rw [Nat.div_lt_iff_lt_mul (by decide)]; exact HN.out
      rw [h1, show 15 - 0 = 15 from rfl]
      generalize N / 256 ^ 15 = A at *
      omega
    rw [ul_step T cs N 1 _ HT.out (by decide) C.out hE (by omega)]
    rw [← List.drop_one] at D; exact D
  have b2 := b1.grown g2 (by intro e; exact hne (Option.some.inj e))
  clear D s d1 b1 c0 l0 e0
  have G2 := grown_trans G1 g2
  clear g2 G1
  have c1 := HC.out w2 _ b2 1 (by decide)
  have l1 := B_lt x 1
  have e1 := and8_248 (B x 1) l1
  go_wp2_with (refine wp_store_cell rfl rfl (by kernel_rfl) rfl rfl rfl d2 (by rw [HL.out 2 (by decide)]; decide) ?_)
  intro w3 D g3 s
  have d3 : Blk w3 gd (bvs (T.take 3) ++ cs.drop 3) td := by
    have hE : N / 32 ^ (25 - 2) % 32 = B x 1 / 8 := by
      rw [digk N 2 14 3 rfl]
      have h1 := HB.out 1 (by decide)
      rw [show 15 - 1 = 14 from rfl] at h1
      rw [h1]
      generalize N / 256 ^ 14 = A at *
      omega
    rw [ul_step T cs N 2 _ HT.out (by decide) C.out hE (by omega)]
    exact D
  have b3 := b2.grown g3 (by intro e; exact hne (Option.some.inj e))
  clear D s d2 b2 c1 l1 e1
  have G3 := grown_trans G2 g3
  clear g3 G2
  have c1 := HC.out w3 _ b3 1 (by decide)
  have l1 := B_lt x 1
  have e1 := and8_7 (B x 1) l1
  have c2 := HC.out w3 _ b3 2 (by decide)
  have l2 := B_lt x 2
  have e2 := and8_192 (B x 2) l2
  have o3 : bits .or .u8 ((B x 1 : Int) % 8 * 4) ((B x 2 : Int) / 64) = ((B x 1 % 8 * 4 + B x 2 / 64 : Nat) : Int) := by
    have h1 : ((B x 1 : Int) % 8 * 4) = ((B x 1 % 8 * 4 : Nat) : Int) := by omega
    have h2 : ((B x 2 : Int) / 64) = ((B x 2 / 64 : Nat) : Int) := by omega
    rw [h1, h2]
    exact or8 2 _ _ (by omega) (by omega) (by omega) (by omega)
  go_wp2_with (refine wp_store_cell rfl rfl (by kernel_rfl) rfl rfl rfl d3 (by rw [HL.out 3 (by decide)]; decide) ?_)
  intro w4 D g4 s
  have d4 : Blk w4 gd (bvs (T.take 4) ++ cs.drop 4) td := by
    have hE : N / 32 ^ (25 - 3) % 32 = B x 1 % 8 * 4 + B x 2 / 64 := by
      rw [digk N 3 13 6 rfl]
      have h1 := HB.out 2 (by decide)
      rw [show 15 - 2 = 13 from rfl] at h1
      have h2 := HB.out 1 (by decide)
      rw [show 15 - 1 = 13 + 1 from rfl, Nat.pow_succ, ← Nat.div_div_eq_div_mul] at h2
      rw [h1, h2]
      generalize N / 256 ^ 13 = A at *
      omega
    rw [ul_step T cs N 3 _ HT.out (by decide) C.out hE (by omega)]
    exact D
  have b4 := b3.grown g4 (by intro e; exact hne (Option.some.inj e))
  clear D s d3 b3 c1 l1 e1 c2 l2 e2 o3
  have G4 := grown_trans G3 g4
  clear g4 G3
  have c2 := HC.out w4 _ b4 2 (by decide)
  have l2 := B_lt x 2
  have e2 := and8_62 (B x 2) l2
  go_wp2_with (refine wp_store_cell rfl rfl (by kernel_rfl) rfl rfl rfl d4 (by rw [HL.out 4 (by decide)]; decide) ?_)
  intro w5 D g5 s
  have d5 : Blk w5 gd (bvs (T.take 5) ++ cs.drop 5) td := by
    have hE : N / 32 ^ (25 - 4) % 32 = B x 2 % 64 / 2 := by
      rw [digk N 4 13 1 rfl]
      have h1 := HB.out 2 (by decide)
      rw [show 15 - 2 = 13 from rfl] at h1
      rw [h1]
      generalize N / 256 ^ 13 = A at *
      omega
    rw [ul_step T cs N 4 _ HT.out (by decide) C.out hE (by omega)]
    exact D
  have b5 := b4.grown g5 (by intro e; exact hne (Option.some.inj e))
  clear D s d4 b4 c2 l2 e2
  have G5 := grown_trans G4 g5
  clear g5 G4
  have c2 := HC.out w5 _ b5 2 (by decide)
  have l2 := B_lt x 2
  have e2 := and8_1 (B x 2) l2
  have c3 := HC.out w5 _ b5 3 (by decide)
  have l3 := B_lt x 3
  have e3 := and8_240 (B x 3) l3
  have o5 : bits .or .u8 ((B x 2 : Int) % 2 * 16) ((B x 3 : Int) / 16) = ((B x 2 % 2 * 16 + B x 3 / 16 : Nat) : Int) := by
    have h1 : ((B x 2 : Int) % 2 * 16) = ((B x 2 % 2 * 16 : Nat) : Int) := by omega
    have h2 : ((B x 3 : Int) / 16) = ((B x 3 / 16 : Nat) : Int) := by omega
    rw [h1, h2]
    exact or8 4 _ _ (by omega) (by omega) (by omega) (by omega)
  go_wp2_with (refine wp_store_cell rfl rfl (by kernel_rfl) rfl rfl rfl d5 (by rw [HL.out 5 (by decide)]; decide) ?_)
  intro w6 D g6 s
  have d6 : Blk w6 gd (bvs (T.take 6) ++ cs.drop 6) td := by
    have hE : N / 32 ^ (25 - 5) % 32 = B x 2 % 2 * 16 + B x 3 / 16 := by
      rw [digk N 5 12 4 rfl]
      have h1 := HB.out 3 (by decide)
      rw [show 15 - 3 = 12 from rfl] at h1
      have h2 := HB.out 2 (by decide)
      rw [show 15 - 2 = 12 + 1 from rfl, Nat.pow_succ, ← Nat.div_div_eq_div_mul] at h2
      rw [h1, h2]
      generalize N / 256 ^ 12 = A at *
      omega
    rw [ul_step T cs N 5 _ HT.out (by decide) C.out hE (by omega)]
    exact D
  have b6 := b5.grown g6 (by intro e; exact hne (Option.some.inj e))
  clear D s d5 b5 c2 l2 e2 c3 l3 e3 o5
  have G6 := grown_trans G5 g6
  clear g6 G5
  have c3 := HC.out w6 _ b6 3 (by decide)
  have l3 := B_lt x 3
  have e3 := and8_15 (B x 3) l3
  have c4 := HC.out w6 _ b6 4 (by decide)
  have l4 := B_lt x 4
  have e4 := and8_128 (B x 4) l4
  have o6 : bits .or .u8 ((B x 3 : Int) % 16 * 2) ((B x 4 : Int) / 128) = ((B x 3 % 16 * 2 + B x 4 / 128 : Nat) : Int) := by
    have h1 : ((B x 3 : Int) % 16 * 2) = ((B x 3 % 16 * 2 : Nat) : Int) := by omega
    have h2 : ((B x 4 : Int) / 128) = ((B x 4 / 128 : Nat) : Int) := by omega
    rw [h1, h2]
    exact or8 1 _ _ (by omega) (by omega) (by omega) (by omega)
  go_wp2_with (refine wp_store_cell rfl rfl (by kernel_rfl) rfl rfl rfl d6 (by rw [HL.out 6 (by decide)]; decide) ?_)
  intro w7 D g7 s
  have d7 : Blk w7 gd (bvs (T.take 7) ++ cs.drop 7) td := by
    have hE : N / 32 ^ (25 - 6) % 32 = B x 3 % 16 * 2 + B x 4 / 128 := by
      rw [digk N 6 11 7 rfl]
      have h1 := HB.out 4 (by decide)
      rw [show 15 - 4 = 11 from rfl] at h1
      have h2 := HB.out 3 (by decide)
      rw [show 15 - 3 = 11 + 1 from rfl, Nat.pow_succ, ← Nat.div_div_eq_div_mul] at h2
      rw [h1, h2]
      generalize N / 256 ^ 11 = A at *
      omega
    rw [ul_step T cs N 6 _ HT.out (by decide) C.out hE (by omega)]
    exact D
  have b7 := b6.grown g7 (by intro e; exact hne (Option.some.inj e))
  clear D s d6 b6 c3 l3 e3 c4 l4 e4 o6
  have G7 := grown_trans G6 g7
  clear g7 G6
  have c4 := HC.out w7 _ b7 4 (by decide)
  have l4 := B_lt x 4
  have e4 := and8_124 (B x 4) l4
  go_wp2_with (refine wp_store_cell rfl rfl (by kernel_rfl) rfl rfl rfl d7 (by rw [HL.out 7 (by decide)]; decide) ?_)
  intro w8 D g8 s
  have d8 : Blk w8 gd (bvs (T.take 8) ++ cs.drop 8) td := by
    have hE : N / 32 ^ (25 - 7) % 32 = B x 4 % 128 / 4 := by
      rw [digk N 7 11 2 rfl]
      have h1 := HB.out 4 (by decide)
      rw [show 15 - 4 = 11 from rfl] at h1
      rw [h1]
      generalize N / 256 ^ 11 = A at *
      omega
    rw [ul_step T cs N 7 _ HT.out (by decide) C.out hE (by omega)]
    exact D
  have b8 := b7.grown g8 (by intro e; exact hne (Option.some.inj e))
  clear D s d7 b7 c4 l4 e4
  have G8 := grown_trans G7 g8
  clear g8 G7
  have c4 := HC.out w8 _ b8 4 (by decide)
  have l4 := B_lt x 4
  have e4 := and8_3 (B x 4) l4
  have c5 := HC.out w8 _ b8 5 (by decide)
  have l5 := B_lt x 5
  have e5 := and8_224 (B x 5) l5
  have o8 : bits .or .u8 ((B x 4 : Int) % 4 * 8) ((B x 5 : Int) / 32) = ((B x 4 % 4 * 8 + B x 5 / 32 : Nat) : Int) := by
    have h1 : ((B x 4 : Int) % 4 * 8) = ((B x 4 % 4 * 8 : Nat) : Int) := by omega
    have h2 : ((B x 5 : Int) / 32) = ((B x 5 / 32 : Nat) : Int) := by omega
    rw [h1, h2]
    exact or8 3 _ _ (by omega) (by omega) (by omega) (by omega)
  go_wp2_with (refine wp_store_cell rfl rfl (by kernel_rfl) rfl rfl rfl d8 (by rw [HL.out 8 (by decide)]; decide) ?_)
  intro w9 D g9 s
  have d9 : Blk w9 gd (bvs (T.take 9) ++ cs.drop 9) td := by
    have hE : N / 32 ^ (25 - 8) % 32 = B x 4 % 4 * 8 + B x 5 / 32 := by
      rw [digk N 8 10 5 rfl]
      have h1 := HB.out 5 (by decide)
      rw [show 15 - 5 = 10 from rfl] at h1
      have h2 := HB.out 4 (by decide)
      rw [show 15 - 4 = 10 + 1 from rfl, Nat.pow_succ, ← Nat.div_div_eq_div_mul] at h2
      rw [h1, h2]
      generalize N / 256 ^ 10 = A at *
      omega
    rw [ul_step T cs N 8 _ HT.out (by decide) C.out hE (by omega)]
    exact D
  have b9 := b8.grown g9 (by intro e; exact hne (Option.some.inj e))
  clear D s d8 b8 c4 l4 e4 c5 l5 e5 o8
  have G9 := grown_trans G8 g9
  clear g9 G8
  have c5 := HC.out w9 _ b9 5 (by decide)
  have l5 := B_lt x 5
  have e5 := and8_31 (B x 5) l5
  go_wp2_with (refine wp_store_cell rfl rfl (by kernel_rfl) rfl rfl rfl d9 (by rw [HL.out 9 (by decide)]; decide) ?_)
  intro w10 D g10 s
  have d10 : Blk w10 gd (bvs (T.take 10) ++ cs.drop 10) td := by
    have hE : N / 32 ^ (25 - 9) % 32 = B x 5 % 32 := by
      rw [digk N 9 10 0 rfl]
      have h1 := HB.out 5 (by decide)
      rw [show 15 - 5 = 10 from rfl] at h1
      rw [h1]
      generalize N / 256 ^ 10 = A at *
      omega
    rw [ul_step T cs N 9 _ HT.out (by decide) C.out hE (by omega)]
    exact D
  have b10 := b9.grown g10 (by intro e; exact hne (Option.some.inj e))
  clear D s d9 b9 c5 l5 e5
  have G10 := grown_trans G9 g10
  clear g10 G9
  have c6 := HC.out w10 _ b10 6 (by decide)
  have l6 := B_lt x 6
  have e6 := and8_248 (B x 6) l6
  go_wp2_with (refine wp_store_cell rfl rfl (by kernel_rfl) rfl rfl rfl d10 (by rw [HL.out 10 (by decide)]; decide) ?_)
  intro w11 D g11 s
  have d11 : Blk w11 gd (bvs (T.take 11) ++ cs.drop 11) td := by
    have hE : N / 32 ^ (25 - 10) % 32 = B x 6 / 8 := by
      rw [digk N 10 9 3 rfl]
      have h1 := HB.out 6 (by decide)
      rw [show 15 - 6 = 9 from rfl] at h1
      rw [h1]
      generalize N / 256 ^ 9 = A at *
      omega
    rw [ul_step T cs N 10 _ HT.out (by decide) C.out hE (by omega)]
    exact D
  have b11 := b10.grown g11 (by intro e; exact hne (Option.some.inj e))
  clear D s d10 b10 c6 l6 e6
  have G11 := grown_trans G10 g11
  clear g11 G10
  have c6 := HC.out w11 _ b11 6 (by decide)
  have l6 := B_lt x 6
  have e6 := and8_7 (B x 6) l6
  have c7 := HC.out w11 _ b11 7 (by decide)
  have l7 := B_lt x 7
  have e7 := and8_192 (B x 7) l7
  have o11 : bits .or .u8 ((B x 6 : Int) % 8 * 4) ((B x 7 : Int) / 64) = ((B x 6 % 8 * 4 + B x 7 / 64 : Nat) : Int) := by
    have h1 : ((B x 6 : Int) % 8 * 4) = ((B x 6 % 8 * 4 : Nat) : Int) := by omega
    have h2 : ((B x 7 : Int) / 64) = ((B x 7 / 64 : Nat) : Int) := by omega
    rw [h1, h2]
    exact or8 2 _ _ (by omega) (by omega) (by omega) (by omega)
  go_wp2_with (refine wp_store_cell rfl rfl (by kernel_rfl) rfl rfl rfl d11 (by rw [HL.out 11 (by decide)]; decide) ?_)
  intro w12 D g12 s
  have d12 : Blk w12 gd (bvs (T.take 12) ++ cs.drop 12) td := by
    have hE : N / 32 ^ (25 - 11) % 32 = B x 6 % 8 * 4 + B x 7 / 64 := by
      rw [digk N 11 8 6 rfl]
      have h1 := HB.out 7 (by decide)
      rw [show 15 - 7 = 8 from rfl] at h1
      have h2 := HB.out 6 (by decide)
      rw [show 15 - 6 = 8 + 1 from rfl, Nat.pow_succ, ← Nat.div_div_eq_div_mul] at h2
      rw [h1, h2]
      generalize N / 256 ^ 8 = A at *
      omega
    rw [ul_step T cs N 11 _ HT.out (by decide) C.out hE (by omega)]
    exact D
  have b12 := b11.grown g12 (by intro e; exact hne (Option.some.inj e))
  clear D s d11 b11 c6 l6 e6 c7 l7 e7 o11
  have G12 := grown_trans G11 g12
  clear g12 G11
  have c7 := HC.out w12 _ b12 7 (by decide)
  have l7 := B_lt x 7
  have e7 := and8_62 (B x 7) l7
  go_wp2_with (refine wp_store_cell rfl rfl (by kernel_rfl) rfl rfl rfl d12 (by rw [HL.out 12 (by decide)]; decide) ?_)
  intro w13 D g13 s
  have d13 : Blk w13 gd (bvs (T.take 13) ++ cs.drop 13) td := by
    have hE : N / 32 ^ (25 - 12) % 32 = B x 7 % 64 / 2 := by
      rw [digk N 12 8 1 rfl]
      have h1 := HB.out 7 (by decide)
      rw [show 15 - 7 = 8 from rfl] at h1
      rw [h1]
      generalize N / 256 ^ 8 = A at *
      omega
    rw [ul_step T cs N 12 _ HT.out (by decide) C.out hE (by omega)]
    exact D
  have b13 := b12.grown g13 (by intro e; exact hne (Option.some.inj e))
  clear D s d12 b12 c7 l7 e7
  have G13 := grown_trans G12 g13
  clear g13 G12
  have c7 := HC.out w13 _ b13 7 (by decide)
  have l7 := B_lt x 7
  have e7 := and8_1 (B x 7) l7
  have c8 := HC.out w13 _ b13 8 (by decide)
  have l8 := B_lt x 8
  have e8 := and8_240 (B x 8) l8
  have o13 : bits .or .u8 ((B x 7 : Int) % 2 * 16) ((B x 8 : Int) / 16) = ((B x 7 % 2 * 16 + B x 8 / 16 : Nat) : Int) := by
    have h1 : ((B x 7 : Int) % 2 * 16) = ((B x 7 % 2 * 16 : Nat) : Int) := by omega
    have h2 : ((B x 8 : Int) / 16) = ((B x 8 / 16 : Nat) : Int) := by omega
    rw [h1, h2]
    exact or8 4 _ _ (by omega) (by omega) (by omega) (by omega)
  go_wp2_with (refine wp_store_cell rfl rfl (by kernel_rfl) rfl rfl rfl d13 (by rw [HL.out 13 (by decide)]; decide) ?_)
  intro w14 D g14 s
  have d14 : Blk w14 gd (bvs (T.take 14) ++ cs.drop 14) td := by
    have hE : N / 32 ^ (25 - 13) % 32 = B x 7 % 2 * 16 + B x 8 / 16 := by
      rw [digk N 13 7 4 rfl]
      have h1 := HB.out 8 (by decide)
      rw [show 15 - 8 = 7 from rfl] at h1
      have h2 := HB.out 7 (by decide)
      rw [show 15 - 7 = 7 + 1 from rfl, Nat.pow_succ, ← Nat.div_div_eq_div_mul] at h2
      rw [h1, h2]
      generalize N / 256 ^ 7 = A at *
      omega
    rw [ul_step T cs N 13 _ HT.out (by decide) C.out hE (by omega)]
    exact D
  have b14 := b13.grown g14 (by intro e; exact hne (Option.some.inj e))
  clear D s d13 b13 c7 l7 e7 c8 l8 e8 o13
  have G14 := grown_trans G13 g14
  clear g14 G13
  have c8 := HC.out w14 _ b14 8 (by decide)
  have l8 := B_lt x 8
  have e8 := and8_15 (B x 8) l8
  have c9 := HC.out w14 _ b14 9 (by decide)
  have l9 := B_lt x 9
  have e9 := and8_128 (B x 9) l9
  have o14 : bits .or .u8 ((B x 8 : Int) % 16 * 2) ((B x 9 : Int) / 128) = ((B x 8 % 16 * 2 + B x 9 / 128 : Nat) : Int) := by
    have h1 : ((B x 8 : Int) % 16 * 2) = ((B x 8 % 16 * 2 : Nat) : Int) := by omega
    have h2 : ((B x 9 : Int) / 128) = ((B x 9 / 128 : Nat) : Int) := by omega
    rw [h1, h2]
    exact or8 1 _ _ (by omega) (by omega) (by omega) (by omega)
  go_wp2_with (refine wp_store_cell rfl rfl (by kernel_rfl) rfl rfl rfl d14 (by rw [HL.out 14 (by decide)]; decide) ?_)
  intro w15 D g15 s
  have d15 : Blk w15 gd (bvs (T.take 15) ++ cs.drop 15) td := by
    have hE : N / 32 ^ (25 - 14) % 32 = B x 8 % 16 * 2 + B x 9 / 128 := by
      rw [digk N 14 6 7 rfl]
      have h1 := HB.out 9 (by decide)
      rw [show 15 - 9 = 6 from rfl] at h1
      have h2 := HB.out 8 (by decide)
      rw [show 15 - 8 = 6 + 1 from rfl, Nat.pow_succ, ← Nat.div_div_eq_div_mul] at h2
      rw [h1, h2]
      generalize N / 256 ^ 6 = A at *
      omega
    rw [ul_step T cs N 14 _ HT.out (by decide) C.out hE (by omega)]
    exact D
  have b15 := b14.grown g15 (by intro e; exact hne (Option.some.inj e))
  clear D s d14 b14 c8 l8 e8 c9 l9 e9 o14
  have G15 := grown_trans G14 g15
  clear g15 G14
  have c9 := HC.out w15 _ b15 9 (by decide)
  have l9 := B_lt x 9
  have e9 := and8_124 (B x 9) l9
  go_wp2_with (refine wp_store_cell rfl rfl (by kernel_rfl) rfl rfl rfl d15 (by rw [HL.out 15 (by decide)]; decide) ?_)
  intro w16 D g16 s
  have d16 : Blk w16 gd (bvs (T.take 16) ++ cs.drop 16) td := by
    have hE : N / 32 ^ (25 - 15) % 32 = B x 9 % 128 / 4 := by
      rw [digk N 15 6 2 rfl]
      have h1 := HB.out 9 (by decide)
      rw [show 15 - 9 = 6 from rfl] at h1
      rw [h1]
      generalize N / 256 ^ 6 = A at *
      omega
    rw [ul_step T cs N 15 _ HT.out (by decide) C.out hE (by omega)]
    exact D
  have b16 := b15.grown g16 (by intro e; exact hne (Option.some.inj e))
  clear D s d15 b15 c9 l9 e9
  have G16 := grown_trans G15 g16
  clear g16 G15
  have c9 := HC.out w16 _ b16 9 (by decide)
  have l9 := B_lt x 9
  have e9 := and8_3 (B x 9) l9
  have c10 := HC.out w16 _ b16 10 (by decide)
  have l10 := B_lt x 10
  have e10 := and8_224 (B x 10) l10
  have o16 : bits .or .u8 ((B x 9 : Int) % 4 * 8) ((B x 10 : Int) / 32) = ((B x 9 % 4 * 8 + B x 10 / 32 : Nat) : Int) := by
    have h1 : ((B x 9 : Int) % 4 * 8) = ((B x 9 % 4 * 8 : Nat) : Int) := by omega
    have h2 : ((B x 10 : Int) / 32) = ((B x 10 / 32 : Nat) : Int) := by omega
    rw [h1, h2]
    exact or8 3 _ _ (by omega) (by omega) (by omega) (by omega)
  go_wp2_with (refine wp_store_cell rfl rfl (by kernel_rfl) rfl rfl rfl d16 (by rw [HL.out 16 (by decide)]; decide) ?_)
  intro w17 D g17 s
  have d17 : Blk w17 gd (bvs (T.take 17) ++ cs.drop 17) td := by
    have hE : N / 32 ^ (25 - 16) % 32 = B x 9 % 4 * 8 + B x 10 / 32 := by
      rw [digk N 16 5 5 rfl]
      have h1 := HB.out 10 (by decide)
      rw [show 15 - 10 = 5 from rfl] at h1
      have h2 := HB.out 9 (by decide)
      rw [show 15 - 9 = 5 + 1 from rfl, Nat.pow_succ, ← Nat.div_div_eq_div_mul] at h2
      rw [h1, h2]
      generalize N / 256 ^ 5 = A at *
      omega
    rw [ul_step T cs N 16 _ HT.out (by decide) C.out hE (by omega)]
    exact D
  have b17 := b16.grown g17 (by intro e; exact hne (Option.some.inj e))
  clear D s d16 b16 c9 l9 e9 c10 l10 e10 o16
  have G17 := grown_trans G16 g17
  clear g17 G16
  have c10 := HC.out w17 _ b17 10 (by decide)
  have l10 := B_lt x 10
  have e10 := and8_31 (B x 10) l10
  go_wp2_with (refine wp_store_cell rfl rfl (by kernel_rfl) rfl rfl rfl d17 (by rw [HL.out 17 (by decide)]; decide) ?_)
  intro w18 D g18 s
  have d18 : Blk w18 gd (bvs (T.take 18) ++ cs.drop 18) td := by
    have hE : N / 32 ^ (25 - 17) % 32 = B x 10 % 32 := by
      rw [digk N 17 5 0 rfl]
      have h1 := HB.out 10 (by decide)
      rw [show 15 - 10 = 5 from rfl] at h1
      rw [h1]
      generalize N / 256 ^ 5 = A at *
      omega
    rw [ul_step T cs N 17 _ HT.out (by decide) C.out hE (by omega)]
    exact D
  have b18 := b17.grown g18 (by intro e; exact hne (Option.some.inj e))
  clear D s d17 b17 c10 l10 e10
  have G18 := grown_trans G17 g18
  clear g18 G17
  have c11 := HC.out w18 _ b18 11 (by decide)
  have l11 := B_lt x 11
  have e11 := and8_248 (B x 11) l11
  go_wp2_with (refine wp_store_cell rfl rfl (by kernel_rfl) rfl rfl rfl d18 (by rw [HL.out 18 (by decide)]; decide) ?_)
  intro w19 D g19 s
  have d19 : Blk w19 gd (bvs (T.take 19) ++ cs.drop 19) td := by
    have hE : N / 32 ^ (25 - 18) % 32 = B x 11 / 8 := by
      rw [digk N 18 4 3 rfl]
      have h1 := HB.out 11 (by decide)
      rw [show 15 - 11 = 4 from rfl] at h1
      rw [h1]
      generalize N / 256 ^ 4 = A at *
      omega
    rw [ul_step T cs N 18 _ HT.out (by decide) C.out hE (by omega)]
    exact D
  have b19 := b18.grown g19 (by intro e; exact hne (Option.some.inj e))
  clear D s d18 b18 c11 l11 e11
  have G19 := grown_trans G18 g19
  clear g19 G18
  have c11 := HC.out w19 _ b19 11 (by decide)
  have l11 := B_lt x 11
  have e11 := and8_7 (B x 11) l11
  have c12 := HC.out w19 _ b19 12 (by decide)
  have l12 := B_lt x 12
  have e12 := and8_192 (B x 12) l12
  have o19 : bits .or .u8 ((B x 11 : Int) % 8 * 4) ((B x 12 : Int) / 64) = ((B x 11 % 8 * 4 + B x 12 / 64 : Nat) : Int) := by
    have h1 : ((B x 11 : Int) % 8 * 4) = ((B x 11 % 8 * 4 : Nat) : Int) := by omega
    have h2 : ((B x 12 : Int) / 64) = ((B x 12 / 64 : Nat) : Int) := by omega
    rw [h1, h2]
    exact or8 2 _ _ (by omega) (by omega) (by omega) (by omega)
  go_wp2_with (refine wp_store_cell rfl rfl (by kernel_rfl) rfl rfl rfl d19 (by rw [HL.out 19 (by decide)]; decide) ?_)
  intro w20 D g20 s
  have d20 : Blk w20 gd (bvs (T.take 20) ++ cs.drop 20) td := by
    have hE : N / 32 ^ (25 - 19) % 32 = B x 11 % 8 * 4 + B x 12 / 64 := by
      rw [digk N 19 3 6 rfl]
      have h1 := HB.out 12 (by decide)
      rw [show 15 - 12 = 3 from rfl] at h1
      have h2 := HB.out 11 (by decide)
      rw [show 15 - 11 = 3 + 1 from rfl, Nat.pow_succ, ← Nat.div_div_eq_div_mul] at h2
      rw [h1, h2]
      generalize N / 256 ^ 3 = A at *
      omega
    rw [ul_step T cs N 19 _ HT.out (by decide) C.out hE (by omega)]
    exact D
  have b20 := b19.grown g20 (by intro e; exact hne (Option.some.inj e))
  clear D s d19 b19 c11 l11 e11 c12 l12 e12 o19
  have G20 := grown_trans G19 g20
  clear g20 G19
  have c12 := HC.out w20 _ b20 12 (by decide)
  have l12 := B_lt x 12
  have e12 := and8_62 (B x 12) l12
  go_wp2_with (refine wp_store_cell rfl rfl (by kernel_rfl) rfl rfl rfl d20 (by rw [HL.out 20 (by decide)]; decide) ?_)
  intro w21 D g21 s
  have d21 : Blk w21 gd (bvs (T.take 21) ++ cs.drop 21) td := by
    have hE : N / 32 ^ (25 - 20) % 32 = B x 12 % 64 / 2 := by
      rw [digk N 20 3 1 rfl]
      have h1 := HB.out 12 (by decide)
      rw [show 15 - 12 = 3 from rfl] at h1
      rw [h1]
      generalize N / 256 ^ 3 = A at *
      omega
    rw [ul_step T cs N 20 _ HT.out (by decide) C.out hE (by omega)]
    exact D
  have b21 := b20.grown g21 (by intro e; exact hne (Option.some.inj e))
  clear D s d20 b20 c12 l12 e12
  have G21 := grown_trans G20 g21
  clear g21 G20
  have c12 := HC.out w21 _ b21 12 (by decide)
  have l12 := B_lt x 12
  have e12 := and8_1 (B x 12) l12
  have c13 := HC.out w21 _ b21 13 (by decide)
  have l13 := B_lt x 13
  have e13 := and8_240 (B x 13) l13
  have o21 : bits .or .u8 ((B x 12 : Int) % 2 * 16) ((B x 13 : Int) / 16) = ((B x 12 % 2 * 16 + B x 13 / 16 : Nat) : Int) := by
    have h1 : ((B x 12 : Int) % 2 * 16) = ((B x 12 % 2 * 16 : Nat) : Int) := by omega
    have h2 : ((B x 13 : Int) / 16) = ((B x 13 / 16 : Nat) : Int) := by omega
    rw [h1, h2]
    exact or8 4 _ _ (by omega) (by omega) (by omega) (by omega)
  go_wp2_with (refine wp_store_cell rfl rfl (by kernel_rfl) rfl rfl rfl d21 (by rw [HL.out 21 (by decide)]; decide) ?_)
  intro w22 D g22 s
  have d22 : Blk w22 gd (bvs (T.take 22) ++ cs.drop 22) td := by
    have hE : N / 32 ^ (25 - 21) % 32 = B x 12 % 2 * 16 + B x 13 / 16 := by
      rw [digk N 21 2 4 rfl]
      have h1 := HB.out 13 (by decide)
      rw [show 15 - 13 = 2 from rfl] at h1
      have h2 := HB.out 12 (by decide)
      rw [show 15 - 12 = 2 + 1 from rfl, Nat.pow_succ, ← Nat.div_div_eq_div_mul] at h2
      rw [h1, h2]
      generalize N / 256 ^ 2 = A at *
      omega
    rw [ul_step T cs N 21 _ HT.out (by decide) C.out hE (by omega)]
    exact D
  have b22 := b21.grown g22 (by intro e; exact hne (Option.some.inj e))
  clear D s d21 b21 c12 l12 e12 c13 l13 e13 o21
  have G22 := grown_trans G21 g22
  clear g22 G21
  have c13 := HC.out w22 _ b22 13 (by decide)
  have l13 := B_lt x 13
  have e13 := and8_15 (B x 13) l13
  have c14 := HC.out w22 _ b22 14 (by decide)
  have l14 := B_lt x 14
  have e14 := and8_128 (B x 14) l14
  have o22 : bits .or .u8 ((B x 13 : Int) % 16 * 2) ((B x 14 : Int) / 128) = ((B x 13 % 16 * 2 + B x 14 / 128 : Nat) : Int) := by
    have h1 : ((B x 13 : Int) % 16 * 2) = ((B x 13 % 16 * 2 : Nat) : Int) := by omega
    have h2 : ((B x 14 : Int) / 128) = ((B x 14 / 128 : Nat) : Int) := by omega
    rw [h1, h2]
    exact or8 1 _ _ (by omega) (by omega) (by omega) (by omega)
  go_wp2_with (refine wp_store_cell rfl rfl (by kernel_rfl) rfl rfl rfl d22 (by rw [HL.out 22 (by decide)]; decide) ?_)
  intro w23 D g23 s
  have d23 : Blk w23 gd (bvs (T.take 23) ++ cs.drop 23) td := by
    have hE : N / 32 ^ (25 - 22) % 32 = B x 13 % 16 * 2 + B x 14 / 128 := by
      rw [digk N 22 1 7 rfl]
      have h1 := HB.out 14 (by decide)
      rw [show 15 - 14 = 1 from rfl] at h1
      have h2 := HB.out 13 (by decide)
      rw [show 15 - 13 = 1 + 1 from rfl, Nat.pow_succ, ← Nat.div_div_eq_div_mul] at h2
      rw [h1, h2]
      generalize N / 256 ^ 1 = A at *
      omega
    rw [ul_step T cs N 22 _ HT.out (by decide) C.out hE (by omega)]
    exact D
  have b23 := b22.grown g23 (by intro e; exact hne (Option.some.inj e))
  clear D s d22 b22 c13 l13 e13 c14 l14 e14 o22
  have G23 := grown_trans G22 g23
  clear g23 G22
  have c14 := HC.out w23 _ b23 14 (by decide)
  have l14 := B_lt x 14
  have e14 := and8_124 (B x 14) l14
  go_wp2_with (refine wp_store_cell rfl rfl (by kernel_rfl) rfl rfl rfl d23 (by rw [HL.out 23 (by decide)]; decide) ?_)
  intro w24 D g24 s
  have d24 : Blk w24 gd (bvs (T.take 24) ++ cs.drop 24) td := by
    have hE : N / 32 ^ (25 - 23) % 32 = B x 14 % 128 / 4 := by
      rw [digk N 23 1 2 rfl]
      have h1 := HB.out 14 (by decide)
      rw [show 15 - 14 = 1 from rfl] at h1
      rw [h1]
      generalize N / 256 ^ 1 = A at *
      omega
    rw [ul_step T cs N 23 _ HT.out (by decide) C.out hE (by omega)]
    exact D
  have b24 := b23.grown g24 (by intro e; exact hne (Option.some.inj e))
  clear D s d23 b23 c14 l14 e14
  have G24 := grown_trans G23 g24
  clear g24 G23
  have c14 := HC.out w24 _ b24 14 (by decide)
  have l14 := B_lt x 14
  have e14 := and8_3 (B x 14) l14
  have c15 := HC.out w24 _ b24 15 (by decide)
  have l15 := B_lt x 15
  have e15 := and8_224 (B x 15) l15
  have o24 : bits .or .u8 ((B x 14 : Int) % 4 * 8) ((B x 15 : Int) / 32) = ((B x 14 % 4 * 8 + B x 15 / 32 : Nat) : Int) := by
    have h1 : ((B x 14 : Int) % 4 * 8) = ((B x 14 % 4 * 8 : Nat) : Int) := by omega
    have h2 : ((B x 15 : Int) / 32) = ((B x 15 / 32 : Nat) : Int) := by omega
    rw [h1, h2]
    exact or8 3 _ _ (by omega) (by omega) (by omega) (by omega)
  go_wp2_with (refine wp_store_cell rfl rfl (by kernel_rfl) rfl rfl rfl d24 (by rw [HL.out 24 (by decide)]; decide) ?_)
  intro w25 D g25 s
  have d25 : Blk w25 gd (bvs (T.take 25) ++ cs.drop 25) td := by
    have hE : N / 32 ^ (25 - 24) % 32 = B x 14 % 4 * 8 + B x 15 / 32 := by
      rw [digk N 24 0 5 rfl]
      have h1 := HB.out 15 (by decide)
      rw [show 15 - 15 = 0 from rfl] at h1
      have h2 := HB.out 14 (by decide)
      rw [show 15 - 14 = 0 + 1 from rfl, Nat.pow_succ, ← Nat.div_div_eq_div_mul] at h2
      rw [h1, h2]
      generalize N / 256 ^ 0 = A at *
      omega
    rw [ul_step T cs N 24 _ HT.out (by decide) C.out hE (by omega)]
    exact D
  have b25 := b24.grown g25 (by intro e; exact hne (Option.some.inj e))
  clear D s d24 b24 c14 l14 e14 c15 l15 e15 o24
  have G25 := grown_trans G24 g25
  clear g25 G24
  have c15 := HC.out w25 _ b25 15 (by decide)
  have l15 := B_lt x 15
  have e15 := and8_31 (B x 15) l15
  go_wp2_with (refine wp_store_cell rfl rfl (by kernel_rfl) rfl rfl rfl d25 (by rw [HL.out 25 (by decide)]; decide) ?_)
  intro w26 D g26 s
  have d26 : Blk w26 gd (bvs (T.take 26) ++ cs.drop 26) td := by
    have hE : N / 32 ^ (25 - 25) % 32 = B x 15 % 32 := by
      rw [digk N 25 0 0 rfl]
      have h1 := HB.out 15 (by decide)
      rw [show 15 - 15 = 0 from rfl] at h1
      rw [h1]
      generalize N / 256 ^ 0 = A at *
      omega
    rw [ul_step T cs N 25 _ HT.out (by decide) C.out hE (by omega)]
    exact D
  have b26 := b25.grown g26 (by intro e; exact hne (Option.some.inj e))
  clear D s d25 b25 c15 l15 e15
  have G26 := grown_trans G25 g26
  clear g26 G25
  have d : Blk w26 gd (bvs T) td := by
    have h1 : T.take 26 = T := List.take_of_length_le (by rw [HT.out, writ_length]; exact Nat.le_refl _)
    have h2 : cs.drop 26 = [] := List.drop_of_length_le (by rw [C.out]; exact Nat.le_refl _)
    rw [h1, h2, List.append_nil] at d26
    exact d26
  go_wp2
  go_ret
  exact ⟨rfl, d, G26⟩
end Go.Proofs.Ytpnpgckpjlbmdaa
