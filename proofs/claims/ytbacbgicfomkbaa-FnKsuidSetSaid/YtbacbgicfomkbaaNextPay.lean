/- Contracts: the words of a payload, a KSUID of words, the next KSUID. -/
import Derived.Test.YtbacbgicfomkbaaNextLaw
import Derived.StillTailTactics
namespace Go.Proofs.Ytbacbgicfomkbaa
open Go.RowKit

theorem or64 (i : Nat) (X Y : Int) (h1 : 0 ≤ X) (h2 : X % 2 ^ i = 0) (h3 : 0 ≤ Y) (h4 : Y < 2 ^ i) (h5 : X < 18446744073709551616) (h6 : Y < 18446744073709551616) : bits .or .u64 X Y = X + Y := by
  obtain ⟨x, rfl⟩ := Int.eq_ofNat_of_zero_le h1
  obtain ⟨y, rfl⟩ := Int.eq_ofNat_of_zero_le h3
  have h2' : x % 2 ^ i = 0 := by exact_mod_cast h2
  have h4' : y < 2 ^ i := by exact_mod_cast h4
  rw [u64_or_nat x y (by omega) (by omega), nat_join i x y h2' h4']
  simp
theorem still_val {P : Program} {ops : Array Oper} {w : World} {Q : Act → Prop} {rest : List Oper} {o : Oper} {v : Value} {a : Act} (hw : Region.wanted o (yielded ops a.tmps) = true) (hy : (execOp a.eval o).run P w = .ok (.value v) w)
    (h : wpStill P ops w Q rest (a.put o.dst v)) : wpStill P ops w Q (o :: rest) a := by
  refine wpStill_step (fun K hK => ?_)
  rw [if_pos hw]
  unfold Oper.still
  rw [hy]
  exact ⟨rfl, hK _ h⟩
theorem num8 : ∀ (y : List UInt8), y.length = 8 → num y = B y 0 * 72057594037927936 + B y 1 * 281474976710656 + B y 2 * 1099511627776 + B y 3 * 4294967296 + B y 4 * 16777216 + B y 5 * 65536 + B y 6 * 256 + B y 7
  | [a, b, c, d, e, f, g, h], _ => by
    simp [num, B]
    omega
theorem B_drop (x : List UInt8) (k i : Nat) : B (x.drop k) i = B x (k + i) := by simp [B, List.getElem?_drop]
theorem B_take (x : List UInt8) (k i : Nat) (h : i < k) : B (x.take k) i = B x i := by simp [B, List.getElem?_take, h]
set_option maxRecDepth 100000 in
set_option maxHeartbeats 1000000 in
theorem fromPayload_ok (a1 : Option Addr) (x : List UInt8) (c1 : Nat) (w : World) (h1 : Rd w a1 x) (hx : x.length = 16) :
    Calls Try.prog 75 #[.slice a1 16 c1] w fun e w' => e = .returned (.agg (u128 (num (x.drop 8)) (num (x.take 8))).toArray) ∧ Below w.heap.size w w' := by
  have hb := Below.refl w.heap.size w
  obtain ⟨b, off, rfl, hc⟩ := h1.2.resolve_left (by intro h; simp [h] at hx)
  have nlo := num8 (x.drop 8) (by rw [List.length_drop, hx])
  have nhi := num8 (x.take 8) (by rw [List.length_take, hx]; rfl)
  simp only [B_drop] at nlo
  rw [B_take _ _ _ (by decide), B_take _ _ _ (by decide), B_take _ _ _ (by decide), B_take _ _ _ (by decide), B_take _ _ _ (by decide), B_take _ _ _ (by decide), B_take _ _ _ (by decide), B_take _ _ _ (by decide)] at nhi
  have c0 := hc 0 (by omega)
  have l0 := B_lt x 0
  have c1 := hc 1 (by omega)
  have l1 := B_lt x 1
  have c2 := hc 2 (by omega)
  have l2 := B_lt x 2
  have c3 := hc 3 (by omega)
  have l3 := B_lt x 3
  have c4 := hc 4 (by omega)
  have l4 := B_lt x 4
  have c5 := hc 5 (by omega)
  have l5 := B_lt x 5
  have c6 := hc 6 (by omega)
  have l6 := B_lt x 6
  have c7 := hc 7 (by omega)
  have l7 := B_lt x 7
  have c8 := hc 8 (by omega)
  have l8 := B_lt x 8
  have c9 := hc 9 (by omega)
  have l9 := B_lt x 9
  have c10 := hc 10 (by omega)
  have l10 := B_lt x 10
  have c11 := hc 11 (by omega)
  have l11 := B_lt x 11
  have c12 := hc 12 (by omega)
  have l12 := B_lt x 12
  have c13 := hc 13 (by omega)
  have l13 := B_lt x 13
  have c14 := hc 14 (by omega)
  have l14 := B_lt x 14
  have c15 := hc 15 (by omega)
  have l15 := B_lt x 15
  clear hc
  generalize B x 0 = b0 at *
  generalize B x 1 = b1 at *
  generalize B x 2 = b2 at *
  generalize B x 3 = b3 at *
  generalize B x 4 = b4 at *
  generalize B x 5 = b5 at *
  generalize B x 6 = b6 at *
  generalize B x 7 = b7 at *
  generalize B x 8 = b8 at *
  generalize B x 9 = b9 at *
  generalize B x 10 = b10 at *
  generalize B x 11 = b11 at *
  generalize B x 12 = b12 at *
  generalize B x 13 = b13 at *
  generalize B x 14 = b14 at *
  generalize B x 15 = b15 at *
  have NLO : Hid ((b8 : Int) * 72057594037927936 + (b9 : Int) * 281474976710656 + (b10 : Int) * 1099511627776 + (b11 : Int) * 4294967296 + (b12 : Int) * 16777216 + (b13 : Int) * 65536 + (b14 : Int) * 256 + (b15 : Int) = (num (x.drop 8) : Int)) := Lib.hid (by rw [nlo]; simp)
  have NHI : Hid ((b0 : Int) * 72057594037927936 + (b1 : Int) * 281474976710656 + (b2 : Int) * 1099511627776 + (b3 : Int) * 4294967296 + (b4 : Int) * 16777216 + (b5 : Int) * 65536 + (b6 : Int) * 256 + (b7 : Int) = (num (x.take 8) : Int)) := Lib.hid (by rw [nhi]; simp)
  clear nlo nhi
  have e0 : IntKind.u64.wrap (b0 : Int) = (b0 : Int) := by rw [IntKind.wrap_u64]; omega
  have e1 : IntKind.u64.wrap (b1 : Int) = (b1 : Int) := by rw [IntKind.wrap_u64]; omega
  have e2 : IntKind.u64.wrap (b2 : Int) = (b2 : Int) := by rw [IntKind.wrap_u64]; omega
  have e3 : IntKind.u64.wrap (b3 : Int) = (b3 : Int) := by rw [IntKind.wrap_u64]; omega
  have e4 : IntKind.u64.wrap (b4 : Int) = (b4 : Int) := by rw [IntKind.wrap_u64]; omega
  have e5 : IntKind.u64.wrap (b5 : Int) = (b5 : Int) := by rw [IntKind.wrap_u64]; omega
  have e6 : IntKind.u64.wrap (b6 : Int) = (b6 : Int) := by rw [IntKind.wrap_u64]; omega
  have e7 : IntKind.u64.wrap (b7 : Int) = (b7 : Int) := by rw [IntKind.wrap_u64]; omega
  have e8 : IntKind.u64.wrap (b8 : Int) = (b8 : Int) := by rw [IntKind.wrap_u64]; omega
  have e9 : IntKind.u64.wrap (b9 : Int) = (b9 : Int) := by rw [IntKind.wrap_u64]; omega
  have e10 : IntKind.u64.wrap (b10 : Int) = (b10 : Int) := by rw [IntKind.wrap_u64]; omega
  have e11 : IntKind.u64.wrap (b11 : Int) = (b11 : Int) := by rw [IntKind.wrap_u64]; omega
  have e12 : IntKind.u64.wrap (b12 : Int) = (b12 : Int) := by rw [IntKind.wrap_u64]; omega
  have e13 : IntKind.u64.wrap (b13 : Int) = (b13 : Int) := by rw [IntKind.wrap_u64]; omega
  have e14 : IntKind.u64.wrap (b14 : Int) = (b14 : Int) := by rw [IntKind.wrap_u64]; omega
  have e15 : IntKind.u64.wrap (b15 : Int) = (b15 : Int) := by rw [IntKind.wrap_u64]; omega
  have m0 : IntKind.u64.wrap ((b0 : Int) * 72057594037927936) = (b0 : Int) * 72057594037927936 := by rw [IntKind.wrap_u64]; omega
  have m1 : IntKind.u64.wrap ((b1 : Int) * 281474976710656) = (b1 : Int) * 281474976710656 := by rw [IntKind.wrap_u64]; omega
  have m2 : IntKind.u64.wrap ((b2 : Int) * 1099511627776) = (b2 : Int) * 1099511627776 := by rw [IntKind.wrap_u64]; omega
  have m3 : IntKind.u64.wrap ((b3 : Int) * 4294967296) = (b3 : Int) * 4294967296 := by rw [IntKind.wrap_u64]; omega
  have m4 : IntKind.u64.wrap ((b4 : Int) * 16777216) = (b4 : Int) * 16777216 := by rw [IntKind.wrap_u64]; omega
  have m5 : IntKind.u64.wrap ((b5 : Int) * 65536) = (b5 : Int) * 65536 := by rw [IntKind.wrap_u64]; omega
  have m6 : IntKind.u64.wrap ((b6 : Int) * 256) = (b6 : Int) * 256 := by rw [IntKind.wrap_u64]; omega
  have m8 : IntKind.u64.wrap ((b8 : Int) * 72057594037927936) = (b8 : Int) * 72057594037927936 := by rw [IntKind.wrap_u64]; omega
  have m9 : IntKind.u64.wrap ((b9 : Int) * 281474976710656) = (b9 : Int) * 281474976710656 := by rw [IntKind.wrap_u64]; omega
  have m10 : IntKind.u64.wrap ((b10 : Int) * 1099511627776) = (b10 : Int) * 1099511627776 := by rw [IntKind.wrap_u64]; omega
  have m11 : IntKind.u64.wrap ((b11 : Int) * 4294967296) = (b11 : Int) * 4294967296 := by rw [IntKind.wrap_u64]; omega
  have m12 : IntKind.u64.wrap ((b12 : Int) * 16777216) = (b12 : Int) * 16777216 := by rw [IntKind.wrap_u64]; omega
  have m13 : IntKind.u64.wrap ((b13 : Int) * 65536) = (b13 : Int) * 65536 := by rw [IntKind.wrap_u64]; omega
  have m14 : IntKind.u64.wrap ((b14 : Int) * 256) = (b14 : Int) * 256 := by rw [IntKind.wrap_u64]; omega
  have f9 : bits .or .u64 ((b8 : Int) * 72057594037927936) ((b9 : Int) * 281474976710656) = (b8 : Int) * 72057594037927936 + (b9 : Int) * 281474976710656 := or64 56 _ _ (by omega) (by omega) (by omega) (by omega) (by omega) (by omega)
  have f10 : bits .or .u64 ((b8 : Int) * 72057594037927936 + (b9 : Int) * 281474976710656) ((b10 : Int) * 1099511627776) = (b8 : Int) * 72057594037927936 + (b9 : Int) * 281474976710656 + (b10 : Int) * 1099511627776 := or64 48 _ _ (by omega) (by omega) (by omega) (by omega) (by omega) (by omega)
  have f11 : bits .or .u64 ((b8 : Int) * 72057594037927936 + (b9 : Int) * 281474976710656 + (b10 : Int) * 1099511627776) ((b11 : Int) * 4294967296) = (b8 : Int) * 72057594037927936 + (b9 : Int) * 281474976710656 + (b10 : Int) * 1099511627776 + (b11 : Int) * 4294967296 := or64 40 _ _ (by omega) (by omega) (by omega) (by omega) (by omega) (by omega)
  have f12 : bits .or .u64 ((b8 : Int) * 72057594037927936 + (b9 : Int) * 281474976710656 + (b10 : Int) * 1099511627776 + (b11 : Int) * 4294967296) ((b12 : Int) * 16777216) = (b8 : Int) * 72057594037927936 + (b9 : Int) * 281474976710656 + (b10 : Int) * 1099511627776 + (b11 : Int) * 4294967296 + (b12 : Int) * 16777216 := or64 32 _ _ (by omega) (by omega) (by omega) (by omega) (by omega) (by omega)
  have f13 : bits .or .u64 ((b8 : Int) * 72057594037927936 + (b9 : Int) * 281474976710656 + (b10 : Int) * 1099511627776 + (b11 : Int) * 4294967296 + (b12 : Int) * 16777216) ((b13 : Int) * 65536) = (b8 : Int) * 72057594037927936 + (b9 : Int) * 281474976710656 + (b10 : Int) * 1099511627776 + (b11 : Int) * 4294967296 + (b12 : Int) * 16777216 + (b13 : Int) * 65536 := or64 24 _ _ (by omega) (by omega) (by omega) (by omega) (by omega) (by omega)
  have f14 : bits .or .u64 ((b8 : Int) * 72057594037927936 + (b9 : Int) * 281474976710656 + (b10 : Int) * 1099511627776 + (b11 : Int) * 4294967296 + (b12 : Int) * 16777216 + (b13 : Int) * 65536) ((b14 : Int) * 256) = (b8 : Int) * 72057594037927936 + (b9 : Int) * 281474976710656 + (b10 : Int) * 1099511627776 + (b11 : Int) * 4294967296 + (b12 : Int) * 16777216 + (b13 : Int) * 65536 + (b14 : Int) * 256 := or64 16 _ _ (by omega) (by omega) (by omega) (by omega) (by omega) (by omega)
  have f15 : bits .or .u64 ((b8 : Int) * 72057594037927936 + (b9 : Int) * 281474976710656 + (b10 : Int) * 1099511627776 + (b11 : Int) * 4294967296 + (b12 : Int) * 16777216 + (b13 : Int) * 65536 + (b14 : Int) * 256) ((b15 : Int)) = (b8 : Int) * 72057594037927936 + (b9 : Int) * 281474976710656 + (b10 : Int) * 1099511627776 + (b11 : Int) * 4294967296 + (b12 : Int) * 16777216 + (b13 : Int) * 65536 + (b14 : Int) * 256 + (b15 : Int) := or64 8 _ _ (by omega) (by omega) (by omega) (by omega) (by omega) (by omega)
  have f1 : bits .or .u64 ((b0 : Int) * 72057594037927936) ((b1 : Int) * 281474976710656) = (b0 : Int) * 72057594037927936 + (b1 : Int) * 281474976710656 := or64 56 _ _ (by omega) (by omega) (by omega) (by omega) (by omega) (by omega)
  have f2 : bits .or .u64 ((b0 : Int) * 72057594037927936 + (b1 : Int) * 281474976710656) ((b2 : Int) * 1099511627776) = (b0 : Int) * 72057594037927936 + (b1 : Int) * 281474976710656 + (b2 : Int) * 1099511627776 := or64 48 _ _ (by omega) (by omega) (by omega) (by omega) (by omega) (by omega)
  have f3 : bits .or .u64 ((b0 : Int) * 72057594037927936 + (b1 : Int) * 281474976710656 + (b2 : Int) * 1099511627776) ((b3 : Int) * 4294967296) = (b0 : Int) * 72057594037927936 + (b1 : Int) * 281474976710656 + (b2 : Int) * 1099511627776 + (b3 : Int) * 4294967296 := or64 40 _ _ (by omega) (by omega) (by omega) (by omega) (by omega) (by omega)
  have f4 : bits .or .u64 ((b0 : Int) * 72057594037927936 + (b1 : Int) * 281474976710656 + (b2 : Int) * 1099511627776 + (b3 : Int) * 4294967296) ((b4 : Int) * 16777216) = (b0 : Int) * 72057594037927936 + (b1 : Int) * 281474976710656 + (b2 : Int) * 1099511627776 + (b3 : Int) * 4294967296 + (b4 : Int) * 16777216 := or64 32 _ _ (by omega) (by omega) (by omega) (by omega) (by omega) (by omega)
  have f5 : bits .or .u64 ((b0 : Int) * 72057594037927936 + (b1 : Int) * 281474976710656 + (b2 : Int) * 1099511627776 + (b3 : Int) * 4294967296 + (b4 : Int) * 16777216) ((b5 : Int) * 65536) = (b0 : Int) * 72057594037927936 + (b1 : Int) * 281474976710656 + (b2 : Int) * 1099511627776 + (b3 : Int) * 4294967296 + (b4 : Int) * 16777216 + (b5 : Int) * 65536 := or64 24 _ _ (by omega) (by omega) (by omega) (by omega) (by omega) (by omega)
  have f6 : bits .or .u64 ((b0 : Int) * 72057594037927936 + (b1 : Int) * 281474976710656 + (b2 : Int) * 1099511627776 + (b3 : Int) * 4294967296 + (b4 : Int) * 16777216 + (b5 : Int) * 65536) ((b6 : Int) * 256) = (b0 : Int) * 72057594037927936 + (b1 : Int) * 281474976710656 + (b2 : Int) * 1099511627776 + (b3 : Int) * 4294967296 + (b4 : Int) * 16777216 + (b5 : Int) * 65536 + (b6 : Int) * 256 := or64 16 _ _ (by omega) (by omega) (by omega) (by omega) (by omega) (by omega)
  have f7 : bits .or .u64 ((b0 : Int) * 72057594037927936 + (b1 : Int) * 281474976710656 + (b2 : Int) * 1099511627776 + (b3 : Int) * 4294967296 + (b4 : Int) * 16777216 + (b5 : Int) * 65536 + (b6 : Int) * 256) ((b7 : Int)) = (b0 : Int) * 72057594037927936 + (b1 : Int) * 281474976710656 + (b2 : Int) * 1099511627776 + (b3 : Int) * 4294967296 + (b4 : Int) * 16777216 + (b5 : Int) * 65536 + (b6 : Int) * 256 + (b7 : Int) := or64 8 _ _ (by omega) (by omega) (by omega) (by omega) (by omega) (by omega)
  have hk : ∀ w', Below w.heap.size w w' → w'.cell? ⟨b, off + 0, none⟩ = some (.int .u8 b0) ∧ w'.cell? ⟨b, off + 1, none⟩ = some (.int .u8 b1) ∧ w'.cell? ⟨b, off + 2, none⟩ = some (.int .u8 b2) ∧ w'.cell? ⟨b, off + 3, none⟩ = some (.int .u8 b3) ∧ w'.cell? ⟨b, off + 4, none⟩ = some (.int .u8 b4) ∧ w'.cell? ⟨b, off + 5, none⟩ = some (.int .u8 b5) ∧ w'.cell? ⟨b, off + 6, none⟩ = some (.int .u8 b6) ∧ w'.cell? ⟨b, off + 7, none⟩ = some (.int .u8 b7) ∧ w'.cell? ⟨b, off + 8, none⟩ = some (.int .u8 b8) ∧ w'.cell? ⟨b, off + 9, none⟩ = some (.int .u8 b9) ∧ w'.cell? ⟨b, off + 10, none⟩ = some (.int .u8 b10) ∧ w'.cell? ⟨b, off + 11, none⟩ = some (.int .u8 b11) ∧ w'.cell? ⟨b, off + 12, none⟩ = some (.int .u8 b12) ∧ w'.cell? ⟨b, off + 13, none⟩ = some (.int .u8 b13) ∧ w'.cell? ⟨b, off + 14, none⟩ = some (.int .u8 b14) ∧ w'.cell? ⟨b, off + 15, none⟩ = some (.int .u8 b15) := fun w' hb' => ⟨(hb'.cell (World.block_lt_of_cell? w _ c0)).trans c0, (hb'.cell (World.block_lt_of_cell? w _ c1)).trans c1, (hb'.cell (World.block_lt_of_cell? w _ c2)).trans c2, (hb'.cell (World.block_lt_of_cell? w _ c3)).trans c3, (hb'.cell (World.block_lt_of_cell? w _ c4)).trans c4, (hb'.cell (World.block_lt_of_cell? w _ c5)).trans c5, (hb'.cell (World.block_lt_of_cell? w _ c6)).trans c6, (hb'.cell (World.block_lt_of_cell? w _ c7)).trans c7, (hb'.cell (World.block_lt_of_cell? w _ c8)).trans c8, (hb'.cell (World.block_lt_of_cell? w _ c9)).trans c9, (hb'.cell (World.block_lt_of_cell? w _ c10)).trans c10, (hb'.cell (World.block_lt_of_cell? w _ c11)).trans c11, (hb'.cell (World.block_lt_of_cell? w _ c12)).trans c12, (hb'.cell (World.block_lt_of_cell? w _ c13)).trans c13, (hb'.cell (World.block_lt_of_cell? w _ c14)).trans c14, (hb'.cell (World.block_lt_of_cell? w _ c15)).trans c15⟩
  clear c0 c1 c2 c3 c4 c5 c6 c7 c8 c9 c10 c11 c12 c13 c14 c15
  go_enter Try.func75, Try.ntmps75
  go_wp2_with (refine wp_alloc_blk u128Arr hb rfl rfl rfl (Nat.le_refl _) ?_)
  intro w1 bk1 g1 s1 hb1
  clear s1
  obtain ⟨k0, k1, k2, k3, k4, k5, k6, k7, k8, k9, k10, k11, k12, k13, k14, k15⟩ := hk _ hb1
  simp only [Nat.add_zero] at k0
  go_wp2
  refine wp_region_still_tail 93 (by kernel_rfl) (by kernel_rfl) ?_
  simp only [List.append_eq, List.cons_append, List.nil_append, List.take_succ_cons, List.take_zero, List.drop_succ_cons, List.drop_zero]
  repeat ((refine still_val (v := ?_) rfl ?_ ?_; rotate_left; (focus (go_simp; first | done | with_reducible rfl))); simp only [Act.put, List.setIfInBounds_toArray, List.set_cons_zero, List.set_cons_succ])
  refine wpStill_nil ?_
  have hd1 : Below w1.heap.size w1 w1.drew := ⟨rfl, rfl, rfl, Nat.le_refl _, fun _ _ => rfl⟩
  have hb1' := hb1.trans (hd1.mono hb1.size)
  have hbk := bk1
  change wpList _ _ _ _ _ w1.drew
  generalize hw2 : w1.drew = w2 at *
  have bk2 : Blk w2 w.heap.size (u128 0 0) 77 := by rw [← hw2]; exact hbk
  go_wp2_with (refine wp_store_blk u128Arr hb1' rfl rfl rfl (cs := u128 (num (x.drop 8)) (num (x.take 8))) (by rw [u128, ← NLO.out, ← NHI.out]; rfl) bk2 (Nat.le_refl _) rfl rfl (u128_one _ _) ?_)
  intro w3 b3 g3 s3 hb3
  clear s3
  go_wp2
  exact ret_cell u128Arr rfl rfl rfl b3 rfl ⟨rfl, hb3⟩
end Go.Proofs.Ytbacbgicfomkbaa
