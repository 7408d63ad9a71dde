/- Contracts: a KSUID of words, the next KSUID. -/
import Derived.Test.YtbacbgicfomkbaaNextPay
namespace Go.Proofs.Ytbacbgicfomkbaa
open Go.RowKit
set_option linter.unusedVariables false

theorem be_cons (m n : Nat) : bvs (be (m + 1) n) = bvs (be m (n / 256)) ++ [.int .u8 ((n % 256 : Nat) : Int)] := by
  rw [be, bvs_append]
  simp [bvs, bv]
theorem be4_cells (t : Nat) : bvs (be 4 t) = [.int .u8 ((t / 256 / 256 / 256 % 256 : Nat) : Int), .int .u8 ((t / 256 / 256 % 256 : Nat) : Int), .int .u8 ((t / 256 % 256 : Nat) : Int), .int .u8 ((t % 256 : Nat) : Int)] := by
  rw [be_cons, be_cons, be_cons, be_cons]; rfl
theorem be8_cells (t : Nat) : bvs (be 8 t) = [.int .u8 ((t / 256 / 256 / 256 / 256 / 256 / 256 / 256 % 256 : Nat) : Int), .int .u8 ((t / 256 / 256 / 256 / 256 / 256 / 256 % 256 : Nat) : Int), .int .u8 ((t / 256 / 256 / 256 / 256 / 256 % 256 : Nat) : Int), .int .u8 ((t / 256 / 256 / 256 / 256 % 256 : Nat) : Int), .int .u8 ((t / 256 / 256 / 256 % 256 : Nat) : Int), .int .u8 ((t / 256 / 256 % 256 : Nat) : Int), .int .u8 ((t / 256 % 256 : Nat) : Int), .int .u8 ((t % 256 : Nat) : Int)] := by
  rw [be_cons, be_cons, be_cons, be_cons, be_cons, be_cons, be_cons, be_cons]; rfl
/-- The cells that the code writes. -/
def cells20 (t hi lo : Nat) : List Value :=
  [.int .u8 ((t : Int) / 16777216), .int .u8 ((t : Int) / 65536 % 256), .int .u8 ((t : Int) / 256 % 256), .int .u8 ((t : Int) % 256),
   .int .u8 ((hi : Int) / 72057594037927936), .int .u8 ((hi : Int) / 281474976710656 % 256), .int .u8 ((hi : Int) / 1099511627776 % 256), .int .u8 ((hi : Int) / 4294967296 % 256), .int .u8 ((hi : Int) / 16777216 % 256), .int .u8 ((hi : Int) / 65536 % 256), .int .u8 ((hi : Int) / 256 % 256), .int .u8 ((hi : Int) % 256),
   .int .u8 ((lo : Int) / 72057594037927936), .int .u8 ((lo : Int) / 281474976710656 % 256), .int .u8 ((lo : Int) / 1099511627776 % 256), .int .u8 ((lo : Int) / 4294967296 % 256), .int .u8 ((lo : Int) / 16777216 % 256), .int .u8 ((lo : Int) / 65536 % 256), .int .u8 ((lo : Int) / 256 % 256), .int .u8 ((lo : Int) % 256)]
theorem cells20_eq (t hi lo : Nat) (ht : t < 4294967296) (hh : hi < 18446744073709551616) (hl : lo < 18446744073709551616) : cells20 t hi lo = bvs (be 4 t ++ (be 8 hi ++ be 8 lo)) := by
  rw [bvs_append, bvs_append, be4_cells, be8_cells, be8_cells]
  simp only [cells20, List.cons_append, List.nil_append, List.cons.injEq, Value.int.injEq, true_and, and_true]
  refine ⟨?_, ?_, ?_, ?_, ?_, ?_, ?_, ?_, ?_, ?_, ?_, ?_, ?_, ?_, ?_, ?_, ?_, ?_, ?_, ?_⟩ <;> omega
set_option maxRecDepth 100000 in
theorem u128ksuid_ok (lo hi t : Nat) (w : World) (hlo : lo < 18446744073709551616) (hhi : hi < 18446744073709551616) (ht : t < 4294967296) :
    Calls Try.prog 62 #[.agg (u128 lo hi).toArray, .int .u32 t] w fun e w' => e = .returned (.agg (bvs (be 4 t ++ (be 8 hi ++ be 8 lo))).toArray) ∧ Below w.heap.size w w' := by
  have hb := Below.refl w.heap.size w
  have HC := Lib.hid (cells20_eq t hi lo ht hhi hlo)
  have L20 := Lib.hid (show (bvs (be 4 t ++ (be 8 hi ++ be 8 lo))).length = 20 by simp [bvs_length, be_length])
  go_enter Try.func62, Try.ntmps62
  go_wp2_with (refine wp_box_blk u128Arr hb rfl rfl rfl rfl (Nat.le_refl _) ?_)
  intro w1 b1 g1 s1 hb1
  clear s1
  go_wp2_with (refine wp_alloc_blk ksArr hb1 rfl rfl rfl hb1.size ?_)
  intro w2 b2 g2 s2 hb2
  clear s2
  have p1 := b1.grown g2 (by simp)
  have c0 := p1.cell 0
  have c1 := p1.cell 1
  simp only [u128, List.getElem?_cons_zero, List.getElem?_cons_succ] at c0 c1
  have hs1 : w.heap.size ≤ w1.heap.size := hb1.size
  go_wp2_with (refine wp_store_blk ksArr hb2 rfl rfl rfl (cs := cells20 t hi lo) rfl b2 hs1 rfl rfl (by rw [HC.out]; exact bvs_one _) ?_)
  intro w3 b3 g3 s3 hb3
  clear s3
  rw [HC.out] at b3
  go_wp2
  exact ret_cell ksArr rfl rfl rfl b3 L20.out ⟨rfl, hb3⟩
set_option maxRecDepth 100000 in
theorem uint128Payload_ok (x : List UInt8) (w : World) (hx : x.length = 20) :
    Calls Try.prog 60 #[.agg (bvs x).toArray] w fun e w' => e = .returned (.agg (u128 (num (x.drop 12)) (num ((x.drop 4).take 8))).toArray) ∧ Below w.heap.size w w' := by
  have hb := Below.refl w.heap.size w
  have L := Lib.hid hx
  have L16 := Lib.hid (show (x.drop 4).length = 16 by rw [List.length_drop, hx])
  have HD : Hid ((x.drop 4).drop 8 = x.drop 12) := Lib.hid (by rw [List.drop_drop])
  clear hx
  go_enter Try.func60, Try.ntmps60
  go_wp2_with (refine wp_box_blk ksArr hb rfl rfl rfl rfl (Nat.le_refl _) ?_)
  intro w1 b1 g1 s1 hb1
  clear s1
  go_wp2_with (refine wp_alloc_blk u128Arr hb1 rfl rfl rfl hb1.size ?_)
  intro w2 b2 g2 s2 hb2
  clear s2
  have p1 := b1.grown g2 (by simp)
  have r1 := (p1.rd (by rw [L.out]; decide)).part 4 16 (by rw [L.out]; decide) (by decide)
  rw [Option.map_some, Addr.add_mid, List.take_of_length_le (by rw [L16.out]; exact Nat.le_refl _)] at r1
  have hs1 : w.heap.size ≤ w1.heap.size := hb1.size
  go_wp2_with (go_at_call 75; refine (fromPayload_ok _ (x.drop 4) _ _ r1 L16.out).mono ?_)
  rintro e w3 ⟨rfl, hb3⟩
  rw [HD.out]
  have b3 := b2.kept hb3
  have hb3' := hb2.trans (hb3.mono hb2.size)
  go_wp2_with (refine wp_store_blk u128Arr hb3' rfl rfl rfl rfl b3 hs1 rfl rfl (u128_one _ _) ?_)
  intro w4 b4 g4 s4 hb4
  clear s4
  go_wp2
  exact ret_cell u128Arr rfl rfl rfl b4 rfl ⟨rfl, hb4⟩
end Go.Proofs.Ytbacbgicfomkbaa
