/- The clock of package uuid: its cells, and the time of version 7. -/
import Derived.Test.YtbnkbgbgdolihaaUuidRandomWalk
namespace Go.Proofs.Ytbnkbgbgdolihaa
open Go.RowKit
set_option linter.unusedVariables false

theorem i64_and_nat (a b : Nat) (ha : a < 9223372036854775808) (hb : b < 9223372036854775808) : bits .and .i64 (a : Int) (b : Int) = ((a &&& b : Nat) : Int) := by
  have hx : a &&& b < 2 ^ 63 := Nat.and_lt_two_pow _ (by omega)
  have ea : (BitVec.ofInt 64 (a : Int)).toNat = a := by rw [BitVec.ofInt_natCast, BitVec.toNat_ofNat]; exact Nat.mod_eq_of_lt (by omega)
  have eb : (BitVec.ofInt 64 (b : Int)).toNat = b := by rw [BitVec.ofInt_natCast, BitVec.toNat_ofNat]; exact Nat.mod_eq_of_lt (by omega)
  show IntKind.i64.wrap ((BitVec.ofInt 64 (a : Int) &&& BitVec.ofInt 64 (b : Int)).toNat : Int) = _
  rw [BitVec.toNat_and, ea, eb, IntKind.wrap_i64]
  omega
theorem i64_or_nat (a b : Nat) (ha : a < 9223372036854775808) (hb : b < 9223372036854775808) : bits .or .i64 (a : Int) (b : Int) = ((a ||| b : Nat) : Int) := by
  have hx : a ||| b < 2 ^ 63 := Nat.or_lt_two_pow (by omega) (by omega)
  have ea : (BitVec.ofInt 64 (a : Int)).toNat = a := by rw [BitVec.ofInt_natCast, BitVec.toNat_ofNat]; exact Nat.mod_eq_of_lt (by omega)
  have eb : (BitVec.ofInt 64 (b : Int)).toNat = b := by rw [BitVec.ofInt_natCast, BitVec.toNat_ofNat]; exact Nat.mod_eq_of_lt (by omega)
  show IntKind.i64.wrap ((BitVec.ofInt 64 (a : Int) ||| BitVec.ofInt 64 (b : Int)).toNat : Int) = _
  rw [BitVec.toNat_or, ea, eb, IntKind.wrap_i64]
  omega
/-- The cells of a clock: the time, the random bytes, the node, the last time, the sequence, the last time of version 7. -/
def clockC (t : Nat) (r n : List UInt8) (lt cs l7 : Nat) : List Value := .int .i64 (t : Int) :: (bvs r ++ (bvs n ++ [.int .u64 lt, .int .u16 cs, .int .i64 l7]))
section
variable (t lt cs l7 v : Nat)
theorem clock_len : ∀ (r n : List UInt8), r.length = 2 → n.length = 6 → (clockC t r n lt cs l7).length = 12
  | [_, _], [_, _, _, _, _, _], _, _ => rfl
theorem clock_0 (r n : List UInt8) : (clockC t r n lt cs l7)[0]? = some (.int .i64 (t : Int)) := rfl
theorem clock_9 : ∀ (r n : List UInt8), r.length = 2 → n.length = 6 → (clockC t r n lt cs l7)[9]? = some (.int .u64 (lt : Int))
  | [_, _], [_, _, _, _, _, _], _, _ => rfl
theorem clock_10 : ∀ (r n : List UInt8), r.length = 2 → n.length = 6 → (clockC t r n lt cs l7)[10]? = some (.int .u16 (cs : Int))
  | [_, _], [_, _, _, _, _, _], _, _ => rfl
theorem clock_11 : ∀ (r n : List UInt8), r.length = 2 → n.length = 6 → (clockC t r n lt cs l7)[11]? = some (.int .i64 (l7 : Int))
  | [_, _], [_, _, _, _, _, _], _, _ => rfl
theorem clock_set0 (r n : List UInt8) : (clockC t r n lt cs l7).set 0 (.int .i64 (v : Int)) = clockC v r n lt cs l7 := rfl
theorem clock_set9 : ∀ (r n : List UInt8), r.length = 2 → n.length = 6 → (clockC t r n lt cs l7).set 9 (.int .u64 (v : Int)) = clockC t r n v cs l7
  | [_, _], [_, _, _, _, _, _], _, _ => rfl
theorem clock_set10 : ∀ (r n : List UInt8), r.length = 2 → n.length = 6 → (clockC t r n lt cs l7).set 10 (.int .u16 (v : Int)) = clockC t r n lt v l7
  | [_, _], [_, _, _, _, _, _], _, _ => rfl
theorem clock_set11 : ∀ (r n : List UInt8), r.length = 2 → n.length = 6 → (clockC t r n lt cs l7).set 11 (.int .i64 (v : Int)) = clockC t r n lt cs v
  | [_, _], [_, _, _, _, _, _], _, _ => rfl
end
/-- The number that a time of version 7 becomes, behind another. -/
def now7 (t : Nat) : Nat := t / 1000000 * 4096 + t % 1000000 / 256
def next7 (l7 t : Nat) : Nat := if now7 t ≤ l7 then l7 + 1 else now7 t
theorem next7_gt (l7 t : Nat) : l7 < next7 l7 t := by unfold next7; split <;> omega
theorem now7_le (t : Nat) (h : t ≤ 4102444800000000000) : now7 t ≤ 16803614000000000 := by unfold now7; omega
set_option maxRecDepth 100000 in
set_option maxHeartbeats 1600000 in
theorem getV7_ok (g t lt cs l7 : Nat) (r n : List UInt8) (tC : TypeId) (w : World) (hg : Blk w g (clockC t r n lt cs l7) tC) (hr : r.length = 2) (hn : n.length = 6) (ht : t ≤ 4102444800000000000) (hl : l7 ≤ 1000000000000000000) :
    Calls Try.prog 62 #[.pointer (some ⟨g, 0, none⟩)] w fun e w' => e = .returned (.tuple #[.int .i64 (next7 l7 t / 4096 : Nat), .int .i64 (next7 l7 t % 4096 : Nat)]) ∧ Blk w' g (clockC t r n lt cs (next7 l7 t)) tC ∧ w.grownBy w' (some g) ∧ w'.heap.size = w.heap.size := by
  have c0 := (hg.cell 0).trans (clock_0 t lt cs l7 r n)
  have c11 := (hg.cell 11).trans (clock_11 t lt cs l7 r n hr hn)
  have LC := Lib.hid (clock_len t lt cs l7 r n hr hn)
  have hset := Lib.hid (clock_set11 t lt cs l7 (next7 l7 t) r n hr hn)
  obtain ⟨m, hm⟩ : ∃ m, t / 1000000 = m := ⟨_, rfl⟩
  obtain ⟨s, hs⟩ : ∃ s, t % 1000000 / 256 = s := ⟨_, rfl⟩
  have E1 : (t : Int) / 1000000 = (m : Int) := by omega
  have E2 : ((t : Int) - (m : Int) * 1000000) / 256 = (s : Int) := by omega
  have hm1 : m ≤ 4102444800000 := by omega
  have hs1 : s < 4096 := by omega
  have hmt : m * 1000000 ≤ t := by omega
  have hnow : now7 t = m * 4096 + s := by unfold now7; rw [hm, hs]
  by_cases hle : m * 4096 + s ≤ l7
  · have hnx : next7 l7 t = l7 + 1 := by unfold next7; rw [hnow, if_pos hle]
    rw [hnx] at hset ⊢
    have hd : decide ((m : Int) * 4096 + (s : Int) ≤ (l7 : Int)) = true := decide_eq_true (by omega)
    have hand : bits .and .i64 ((l7 : Int) + 1) 4095 = (((l7 + 1) % 4096 : Nat) : Int) := by
      have := i64_and_nat (l7 + 1) 4095 (by omega) (by decide)
      rw [show (l7 + 1) &&& 4095 = (l7 + 1) % 4096 from Nat.and_two_pow_sub_one_eq_mod _ 12] at this
      exact this
    obtain ⟨q, hq⟩ : ∃ q, (l7 + 1) / 4096 = q := ⟨_, rfl⟩
    have hdiv : ((l7 : Int) + 1) / 4096 = (q : Int) := by omega
    rw [hq]
    generalize (l7 + 1) % 4096 = r0 at *
    clear hm hs hnow hle hnx hq
    go_enter Try.func62, Try.ntmps62
    go_wp2_with (refine wp_store_cell (i := 11) rfl rfl (by kernel_rfl) rfl rfl rfl hg (by rw [LC.out]; decide) ?_)
    intro w2 b2 g2 s2
    have b2' : Blk w2 g ((clockC t r n lt cs l7).set 11 (.int .i64 ((l7 + 1 : Nat) : Int))) tC := b2
    rw [hset.out] at b2'
    have S2 := Lib.hid s2
    clear s2
    go_wp2
    exact ret_tmp2 rfl rfl rfl rfl ⟨rfl, b2', g2, S2.out⟩
  · have hnx : next7 l7 t = m * 4096 + s := by unfold next7; rw [hnow, if_neg hle]
    rw [hnx] at hset ⊢
    have hd : decide ((m : Int) * 4096 + (s : Int) ≤ (l7 : Int)) = false := decide_eq_false (by omega)
    rw [show (m * 4096 + s) / 4096 = m by omega, show (m * 4096 + s) % 4096 = s by omega]
    clear hm hs hnow hle hnx
    go_enter Try.func62, Try.ntmps62
    go_wp2_with (refine wp_store_cell (i := 11) rfl rfl (by kernel_rfl) rfl rfl rfl hg (by rw [LC.out]; decide) ?_)
    intro w2 b2 g2 s2
    have b2' : Blk w2 g ((clockC t r n lt cs l7).set 11 (.int .i64 ((m * 4096 + s : Nat) : Int))) tC := by
      rw [show ((m * 4096 + s : Nat) : Int) = (m : Int) * 4096 + s by simp]; exact b2
    rw [hset.out] at b2'
    have S2 := Lib.hid s2
    clear s2
    go_wp2
    exact ret_tmp2 rfl rfl rfl rfl ⟨rfl, b2', g2, S2.out⟩
end Go.Proofs.Ytbnkbgbgdolihaa
