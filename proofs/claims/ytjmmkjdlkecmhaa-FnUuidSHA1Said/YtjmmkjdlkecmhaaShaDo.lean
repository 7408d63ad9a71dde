/- SHA-1: what the operations of its rounds yield, over an abstract frame; math/bits.RotateLeft32. -/
import Derived.Test.YtjmmkjdlkecmhaaAbsDo
namespace Go.Proofs.Ytjmmkjdlkecmhaa
open Go.RowKit
set_option linter.unusedVariables false
set_option linter.unusedSimpArgs false

def uAnd (x y : Int) : Int := bits .and .u32 x y
def uOr (x y : Int) : Int := bits .or .u32 x y
def uXor (x y : Int) : Int := bits .xor .u32 x y
def uNot (x : Int) : Int := bits .xor .u32 (if IntKind.u32.signed = true then -1 else IntKind.u32.max) x
def uAdd (x y : Int) : Int := IntKind.u32.wrap (x + y)
def uOf (x : Int) : Int := IntKind.u32.wrap x
def uShl24 (x : Int) : Int := IntKind.u32.wrap (x * 16777216)
def uShl16 (x : Int) : Int := IntKind.u32.wrap (x * 65536)
def uShl8 (x : Int) : Int := IntKind.u32.wrap (x * 256)
def rot1 (x : Int) : Int := bits .or .u32 (x * 2 % 4294967296) (x / 2147483648)
def rot5 (x : Int) : Int := bits .or .u32 (x * 32 % 4294967296) (x / 134217728)
def rot30 (x : Int) : Int := bits .or .u32 (x * 1073741824 % 4294967296) (x / 4)
theorem i64_and15 (n : Int) : bits .and .i64 n 15 = n % 16 := by
  have h15 : (BitVec.ofInt 64 15).toNat = 2 ^ 4 - 1 := by decide
  have key : (BitVec.ofInt 64 n &&& BitVec.ofInt 64 15).toNat = (n % ((2 ^ 64 : Nat) : Int)).toNat % 2 ^ 4 := by
    rw [BitVec.toNat_and, BitVec.toNat_ofInt, h15, Nat.and_two_pow_sub_one_eq_mod]
  show IntKind.i64.wrap ((BitVec.ofInt 64 n &&& BitVec.ofInt 64 15).toNat : Nat) = n % 16
  rw [key, IntKind.wrap_i64]
  omega
theorem rot5_ok (x : Int) (w : World) : Calls Try.prog 26 #[.int .u32 x, .int .i64 5] w fun e w' => e = .returned (.int .u32 (rot5 x)) ∧ w' = w := by
  have h1 : bits .and .u64 5 31 = 5 := by decide
  go_enter Try.func26, Try.ntmps26
  go_wp2
  go_ret
  exact ⟨rfl, rfl⟩
theorem rot30_ok (x : Int) (w : World) : Calls Try.prog 26 #[.int .u32 x, .int .i64 30] w fun e w' => e = .returned (.int .u32 (rot30 x)) ∧ w' = w := by
  have h1 : bits .and .u64 30 31 = 30 := by decide
  go_enter Try.func26, Try.ntmps26
  go_wp2
  go_ret
  exact ⟨rfl, rfl⟩
theorem rot1_ok (x : Int) (w : World) : Calls Try.prog 26 #[.int .u32 x, .int .i64 1] w fun e w' => e = .returned (.int .u32 (rot1 x)) ∧ w' = w := by
  have h1 : bits .and .u64 1 31 = 1 := by decide
  go_enter Try.func26, Try.ntmps26
  go_wp2
  go_ret
  exact ⟨rfl, rfl⟩
section
variable {a : Act} {w : World}
theorem do_and {o : Oper} {x y : Operand} {u : TypeId} (ho : o.op = .binOp .and 43 x y u) {m n : Int} (hx : a.eval x = .int .u32 m) (hy : a.eval y = .int .u32 n) : (execOp a.eval o).run Try.prog w = .ok (.value (.int .u32 (uAnd m n))) w := by
  unfold execOp; simp only [ho, hx, hy]; go_simp; rfl
theorem do_or32 {o : Oper} {x y : Operand} {u : TypeId} (ho : o.op = .binOp .or 43 x y u) {m n : Int} (hx : a.eval x = .int .u32 m) (hy : a.eval y = .int .u32 n) : (execOp a.eval o).run Try.prog w = .ok (.value (.int .u32 (uOr m n))) w := by
  unfold execOp; simp only [ho, hx, hy]; go_simp; rfl
theorem do_xor {o : Oper} {x y : Operand} {u : TypeId} (ho : o.op = .binOp .xor 43 x y u) {m n : Int} (hx : a.eval x = .int .u32 m) (hy : a.eval y = .int .u32 n) : (execOp a.eval o).run Try.prog w = .ok (.value (.int .u32 (uXor m n))) w := by
  unfold execOp; simp only [ho, hx, hy]; go_simp; rfl
theorem do_add {o : Oper} {x y : Operand} {u : TypeId} (ho : o.op = .binOp .add 43 x y u) {m n : Int} (hx : a.eval x = .int .u32 m) (hy : a.eval y = .int .u32 n) : (execOp a.eval o).run Try.prog w = .ok (.value (.int .u32 (uAdd m n))) w := by
  unfold execOp; simp only [ho, hx, hy]; go_simp; rfl
theorem do_not {o : Oper} {x : Operand} (ho : o.op = .unOp .xor 43 x) {m : Int} (hx : a.eval x = .int .u32 m) : (execOp a.eval o).run Try.prog w = .ok (.value (.int .u32 (uNot m))) w := by
  unfold execOp; simp only [ho, hx]; go_simp; rfl
theorem do_conv {o : Oper} {x : Operand} (ho : o.op = .convert 5 43 x) {m : Int} (hx : a.eval x = .int .u8 m) : (execOp a.eval o).run Try.prog w = .ok (.value (.int .u32 (uOf m))) w := by
  unfold execOp; simp only [ho, hx]; go_simp; rfl
theorem do_shl24 {o : Oper} {x : Operand} {u : TypeId} (ho : o.op = .binOp .shl 43 x (.const (.int .u64 24)) u) {m : Int} (hx : a.eval x = .int .u32 m) : (execOp a.eval o).run Try.prog w = .ok (.value (.int .u32 (uShl24 m))) w := by
  have hc : a.eval (.const (.int .u64 24)) = .int .u64 24 := rfl
  unfold execOp; simp only [ho, hx, hc]; go_simp; rfl
theorem do_shl16 {o : Oper} {x : Operand} {u : TypeId} (ho : o.op = .binOp .shl 43 x (.const (.int .u64 16)) u) {m : Int} (hx : a.eval x = .int .u32 m) : (execOp a.eval o).run Try.prog w = .ok (.value (.int .u32 (uShl16 m))) w := by
  have hc : a.eval (.const (.int .u64 16)) = .int .u64 16 := rfl
  unfold execOp; simp only [ho, hx, hc]; go_simp; rfl
theorem do_shl8 {o : Oper} {x : Operand} {u : TypeId} (ho : o.op = .binOp .shl 43 x (.const (.int .u64 8)) u) {m : Int} (hx : a.eval x = .int .u32 m) : (execOp a.eval o).run Try.prog w = .ok (.value (.int .u32 (uShl8 m))) w := by
  have hc : a.eval (.const (.int .u64 8)) = .int .u64 8 := rfl
  unfold execOp; simp only [ho, hx, hc]; go_simp; rfl
theorem do_i15 {o : Oper} {x : Operand} {u : TypeId} (ho : o.op = .binOp .and 3 x (.const (.int .i64 15)) u) {m : Nat} (hx : a.eval x = .int .i64 (m : Int)) : (execOp a.eval o).run Try.prog w = .ok (.value (.int .i64 ((m % 16 : Nat) : Int))) w := by
  have hc : a.eval (.const (.int .i64 15)) = .int .i64 15 := rfl
  have h15 := i64_and15 (m : Int)
  unfold execOp; simp only [ho, hx, hc]; go_simp
theorem do_isub {o : Oper} {x : Operand} {u : TypeId} {j : Nat} (ho : o.op = .binOp .sub 3 x (.const (.int .i64 (j : Int))) u) {m : Nat} (hx : a.eval x = .int .i64 (m : Int)) (hm : m < 1000) (hj : j ≤ m) : (execOp a.eval o).run Try.prog w = .ok (.value (.int .i64 ((m - j : Nat) : Int))) w := by
  have hc : a.eval (.const (.int .i64 (j : Int))) = .int .i64 (j : Int) := rfl
  have e : IntKind.i64.wrap ((m : Int) - (j : Int)) = ((m - j : Nat) : Int) := by rw [IntKind.wrap_i64]; omega
  unfold execOp; simp only [ho, hx, hc]; go_simp
theorem do_iadd {o : Oper} {x : Operand} {u : TypeId} {j : Nat} (ho : o.op = .binOp .add 3 x (.const (.int .i64 (j : Int))) u) {m : Nat} (hx : a.eval x = .int .i64 (m : Int)) (hm : m < 1000) (hj : j < 1000) : (execOp a.eval o).run Try.prog w = .ok (.value (.int .i64 ((m + j : Nat) : Int))) w := by
  have hc : a.eval (.const (.int .i64 (j : Int))) = .int .i64 (j : Int) := rfl
  have e : IntKind.i64.wrap ((m : Int) + (j : Int)) = ((m + j : Nat) : Int) := by rw [IntKind.wrap_i64]; omega
  unfold execOp; simp only [ho, hx, hc]; go_simp
theorem do_imul4 {o : Oper} {x : Operand} {u : TypeId} (ho : o.op = .binOp .mul 3 x (.const (.int .i64 4)) u) {m : Nat} (hx : a.eval x = .int .i64 (m : Int)) (hm : m < 1000) : (execOp a.eval o).run Try.prog w = .ok (.value (.int .i64 ((4 * m : Nat) : Int))) w := by
  have hc : a.eval (.const (.int .i64 4)) = .int .i64 4 := rfl
  have e : IntKind.i64.wrap ((m : Int) * 4) = ((4 * m : Nat) : Int) := by rw [IntKind.wrap_i64]; omega
  unfold execOp; simp only [ho, hx, hc]; go_simp
theorem do_ilss {o : Oper} {x : Operand} {u : TypeId} {j : Nat} (ho : o.op = .binOp .lss 3 x (.const (.int .i64 (j : Int))) u) {m : Nat} (hx : a.eval x = .int .i64 (m : Int)) : (execOp a.eval o).run Try.prog w = .ok (.value (.bool (decide (m < j)))) w := by
  have hc : a.eval (.const (.int .i64 (j : Int))) = .int .i64 (j : Int) := rfl
  have e : decide ((m : Int) < (j : Int)) = decide (m < j) := by rw [decide_eq_decide]; omega
  unfold execOp; simp only [ho, hx, hc]; go_simp
theorem do_igeq {o : Oper} {x : Operand} {u : TypeId} {j : Nat} (ho : o.op = .binOp .geq 3 x (.const (.int .i64 (j : Int))) u) {m : Nat} (hx : a.eval x = .int .i64 (m : Int)) : (execOp a.eval o).run Try.prog w = .ok (.value (.bool (decide (j ≤ m)))) w := by
  have hc : a.eval (.const (.int .i64 (j : Int))) = .int .i64 (j : Int) := rfl
  have e : decide ((m : Int) ≥ (j : Int)) = decide (j ≤ m) := by rw [decide_eq_decide]; omega
  unfold execOp; simp only [ho, hx, hc]; go_simp
theorem do_wat {o : Oper} {x y : Operand} (ho : o.op = .indexAddr 62 x y) {g : Nat} (hx : a.eval x = .pointer (some ⟨g, 0, none⟩)) {j : Nat} (hy : a.eval y = .int .i64 (j : Int)) (hj : j < 16) : (execOp a.eval o).run Try.prog w = .ok (.value (.pointer (some ⟨g, j, none⟩))) w := by
  have hj' : ¬ (16 ≤ (j : Int)) := by omega
  unfold execOp
  simp only [ho, hx, hy]
  go_simp
theorem do_hat {o : Oper} {x : Operand} {j : Nat} (ho : o.op = .indexAddr 44 x (.const (.int .i64 (j : Int)))) {g : Nat} (hx : a.eval x = .pointer (some ⟨g, 0, none⟩)) (hj : j < 5) : (execOp a.eval o).run Try.prog w = .ok (.value (.pointer (some ⟨g, j, none⟩))) w := by
  have hc : a.eval (.const (.int .i64 (j : Int))) = .int .i64 (j : Int) := rfl
  have hj' : ¬ (5 ≤ (j : Int)) := by omega
  unfold execOp
  simp only [ho, hx, hc]
  go_simp
theorem do_field0 {o : Oper} {x : Operand} (ho : o.op = .fieldAddr 48 x 0) {g : Nat} (hx : a.eval x = .pointer (some ⟨g, 0, none⟩)) : (execOp a.eval o).run Try.prog w = .ok (.value (.pointer (some ⟨g, 0, none⟩))) w := by
  unfold execOp
  simp only [ho, hx]
  go_simp
theorem do_nil {o : Oper} {x : Operand} (ho : o.op = .nilCheck x) {ad : Addr} (hx : a.eval x = .pointer (some ad)) : (execOp a.eval o).run Try.prog w = .ok (.value (.pointer (some ad))) w := by
  unfold execOp
  simp only [ho, hx]
  go_simp
theorem do_load32 {o : Oper} {x : Operand} (ho : o.op = .load 43 x) {ad : Addr} (hx : a.eval x = .pointer (some ad)) {p : Int} (hc : w.cell? ad = some (.int .u32 p)) : (execOp a.eval o).run Try.prog w = .ok (.value (.int .u32 p)) w := by
  unfold execOp
  simp only [ho, hx]
  go_simp
theorem do_load8 {o : Oper} {x : Operand} (ho : o.op = .load 5 x) {ad : Addr} (hx : a.eval x = .pointer (some ad)) {p : Int} (hc : w.cell? ad = some (.int .u8 p)) : (execOp a.eval o).run Try.prog w = .ok (.value (.int .u8 p)) w := by
  unfold execOp
  simp only [ho, hx]
  go_simp
theorem do_len {o : Oper} {x : Operand} {t : TypeId} (ho : o.op = .call { callee := .builtin .len, args := #[x], argTypes := #[t] }) {p : Option Addr} {n c : Nat} (hx : a.eval x = .slice p n c) (ht : t = 22) : (execOp a.eval o).run Try.prog w = .ok (.value (.int .i64 (n : Int))) w := by
  subst ht
  have hm : (#[x].map a.eval) = #[.slice p n c] := by simp [hx]
  unfold execOp
  simp only [ho, hm]
  go_simp
end
end Go.Proofs.Ytjmmkjdlkecmhaa
