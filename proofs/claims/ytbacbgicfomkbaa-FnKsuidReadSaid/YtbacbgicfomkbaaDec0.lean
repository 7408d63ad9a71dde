/- The text of a KSUID read: the package's digits of 62. -/
import Derived.Test.YtbacbgicfomkbaaFeed
import Derived.Test.YtbacbgicfomkbaaTextK
import Derived.Test.YtbacbgicfomkbaaLex
namespace Go.Proofs.Ytbacbgicfomkbaa
open Go.RowKit
set_option linter.unusedVariables false
set_option linter.unusedSimpArgs false

/-- The value of a digit of 62. -/
def v62 (c : Nat) : Nat := if c ≤ 57 then c - 48 else if c ≤ 90 then c - 55 else c - 61
def is62 (c : Nat) : Prop := (48 ≤ c ∧ c ≤ 57) ∨ (65 ≤ c ∧ c ≤ 90) ∨ (97 ≤ c ∧ c ≤ 122)
theorem d62_digit : ∀ n, n < 62 → v62 (d62.getD n 0).toNat = n := by decide
theorem d62_is : ∀ n, n < 62 → is62 (d62.getD n 0).toNat := by
  have : ∀ n, n < 62 → ((48 ≤ (d62.getD n 0).toNat ∧ (d62.getD n 0).toNat ≤ 57) ∨ (65 ≤ (d62.getD n 0).toNat ∧ (d62.getD n 0).toNat ≤ 90) ∨ (97 ≤ (d62.getD n 0).toNat ∧ (d62.getD n 0).toNat ≤ 122)) := by decide
  exact this
theorem b62_ok (c : Nat) (h : is62 c) (w : World) : Calls Try.prog 84 #[.int .u8 (c : Int)] w fun e w' => e = .returned (.int .u8 (v62 c : Nat)) ∧ w' = w := by
  rcases h with ⟨h1, h2⟩ | ⟨h1, h2⟩ | ⟨h1, h2⟩
  · have hv : Hid ((v62 c : Int) = (c : Int) - 48) := Lib.hid (by unfold v62; rw [if_pos h2]; omega)
    go_enter Try.func84, Try.ntmps84
    go_wp2
    go_ret
    exact ⟨congrArg (fun n => Ending.returned (.int .u8 n)) (by have := hv.out; omega), rfl⟩
  · have hv : Hid ((v62 c : Int) = (c : Int) - 65 + 10) := Lib.hid (by unfold v62; rw [if_neg (by omega), if_pos h2]; omega)
    go_enter Try.func84, Try.ntmps84
    go_wp2
    go_ret
    exact ⟨congrArg (fun n => Ending.returned (.int .u8 n)) (by have := hv.out; omega), rfl⟩
  · have hv : Hid ((v62 c : Int) = (c : Int) - 97 + 36) := Lib.hid (by unfold v62; rw [if_neg (by omega), if_neg (by omega)]; omega)
    go_enter Try.func84, Try.ntmps84
    go_wp2
    go_ret
    exact ⟨congrArg (fun n => Ending.returned (.int .u8 n)) (by have := hv.out; omega), rfl⟩

/-- Digit j of V with m digits of 62. -/
def eg (m V j : Nat) : Nat := V / 62 ^ (m - 1 - j) % 62
theorem eg_lt (m V j : Nat) : eg m V j < 62 := Nat.mod_lt _ (by decide)
theorem eg_pre (m V k : Nat) (h : k < m) : V / 62 ^ (m - (k + 1)) = V / 62 ^ (m - k) * 62 + eg m V k := by
  have e : 62 ^ (m - k) = 62 ^ (m - (k + 1)) * 62 := by rw [← Nat.pow_succ, show (m - (k + 1)).succ = m - k by omega]
  rw [eg, e, ← Nat.div_div_eq_div_mul, show m - 1 - k = m - (k + 1) by omega]
  generalize V / 62 ^ (m - (k + 1)) = A
  omega
theorem equo_step (D R r c : Nat) (hr : r < D) : ((D * R + r) * 62 + c) / D = R * 62 + (c + r * 62) / D := by
  have : (D * R + r) * 62 + c = D * (R * 62) + (c + r * 62) := by
    rw [Nat.add_mul, Nat.mul_assoc]; omega
  rw [this, Nat.mul_add_div (by omega)]
theorem erem_step (D R r c : Nat) : ((D * R + r) * 62 + c) % D = (c + r * 62) % D := by
  have : (D * R + r) * 62 + c = D * (R * 62) + (c + r * 62) := by
    rw [Nat.add_mul, Nat.mul_assoc]; omega
  rw [this, Nat.mul_add_mod]
theorem eg_more (q R d j : Nat) (hd : d < 62) (hj : j < q) : eg (q + 1) (R * 62 + d) j = eg q R j := by
  unfold eg
  rw [show q + 1 - 1 - j = (q - 1 - j) + 1 by omega, Nat.pow_succ, Nat.mul_comm (62 ^ _) 62, ← Nat.div_div_eq_div_mul]
  rw [show (R * 62 + d) / 62 = R by omega]
theorem eg_last (q R d : Nat) (hd : d < 62) : eg (q + 1) (R * 62 + d) q = d := by
  unfold eg
  rw [show q + 1 - 1 - q = 0 by omega, Nat.pow_zero, Nat.div_one]
  omega
theorem estep_digits {q R d : Nat} {cq : List Value} (h : ∀ j, j < q → cq[j]? = some (.int .u8 (eg q R j : Nat))) (hl : q < cq.length) (hd : d < 62) : ∀ j, j < q + 1 → (cq.set q (.int .u8 (d : Int)))[j]? = some (.int .u8 (eg (q + 1) (R * 62 + d) j : Nat)) := by
  intro j hj
  by_cases e : j = q
  · subst e
    rw [List.getElem?_set_self hl, eg_last _ _ _ hd]
  · rw [List.getElem?_set_ne (fun h => e h.symm), h j (by omega), eg_more _ _ _ _ hd (by omega)]
theorem estep_lt {q R d : Nat} (h : R < 62 ^ q) (hd : d < 62) : R * 62 + d < 62 ^ (q + 1) := by
  rw [Nat.pow_succ]
  have : (R + 1) * 62 ≤ 62 ^ q * 62 := Nat.mul_le_mul_right _ h
  omega
theorem estep_ge {q R d : Nat} (h : q = 0 ∨ 62 ^ (q - 1) ≤ R) (h0 : ¬ (q = 0 ∧ d = 0)) : 62 ^ (q + 1 - 1) ≤ R * 62 + d := by
  by_cases e : q = 0
  · subst e
    clear h
    rw [show 0 + 1 - 1 = 0 from rfl, Nat.pow_zero]
    omega
  · rcases h with h | h
    · exact absurd h e
    · rw [show q + 1 - 1 = (q - 1) + 1 by omega, Nat.pow_succ]
      exact Nat.le_trans (Nat.mul_le_mul_right 62 h) (Nat.le_add_right _ _)
/-- Four bytes set, the word ahead of what was laid. -/
theorem dec_word (cs l : List Value) (p : Nat) (v0 v1 v2 v3 : Value) (hl : l.length = cs.length) (h0 : l[p]? = some v0) (h1 : l[p + 1]? = some v1) (h2 : l[p + 2]? = some v2) (h3 : l[p + 3]? = some v3) :
    ((((splice cs (p + 4) (l.drop (p + 4))).set p v0).set (p + 1) v1).set (p + 2) v2).set (p + 3) v3 = splice cs p (l.drop p) := by
  have e3 := splice_back cs l 0 (p + 3) v3 h3 (by omega)
  have e2 := splice_back cs l 0 (p + 2) v2 h2 (by omega)
  have e1 := splice_back cs l 0 (p + 1) v1 h1 (by omega)
  have e0 := splice_back cs l 0 p v0 h0 (by omega)
  simp only [Nat.zero_add] at e0 e1 e2 e3
  rw [List.set_comm v2 v3 (by omega), List.set_comm v1 v3 (by omega), List.set_comm v0 v3 (by omega), e3, List.set_comm v1 v2 (by omega), List.set_comm v0 v2 (by omega), e2, List.set_comm v0 v1 (by omega), e1, e0]
/-- The bytes of a word. -/
theorem dec_byte (N t k : Nat) (ht : t < 5) (hk : k < 4) : B (be 20 N) (16 - 4 * t + k) = N / 4294967296 ^ t / 256 ^ (3 - k) % 256 := by
  rw [B_be _ _ _ (by omega), show 20 - 1 - (16 - 4 * t + k) = 4 * t + (3 - k) by omega, Nat.pow_add, ← Nat.div_div_eq_div_mul, show (4294967296 : Nat) = 256 ^ 4 from rfl, ← Nat.pow_mul]
theorem take_zeros (l : List UInt8) (n m : Nat) (hn : n ≤ l.length) (hm : n ≤ m) (h : ∀ i, i < n → B l i = 0) : l.take n = (List.replicate m (0 : UInt8)).take n := by
  apply List.ext_getElem?
  intro i
  rw [List.getElem?_take, List.getElem?_take]
  by_cases hi : i < n
  · have hb := h i hi
    have hl : i < l.length := by omega
    rw [if_pos hi, if_pos hi, List.getElem?_replicate, if_pos (by omega), List.getElem?_eq_getElem hl]
    congr 1
    apply UInt8.toNat_inj.1
    simpa [B, hl] using hb
  · rw [if_neg hi, if_neg hi]
theorem zeros20 (N t : Nat) (h : N / 4294967296 ^ t = 0) (ht : t ≤ 5) : (bvs (be 20 N)).take (20 - 4 * t) = bvs ((List.replicate 20 (0 : UInt8)).take (20 - 4 * t)) := by
  have hl := be_length 20 N
  have e := take_zeros (be 20 N) (20 - 4 * t) 20 (by omega) (by omega) (fun i hi => by
    rw [B_be _ _ _ (by omega), show 20 - 1 - i = 4 * t + (19 - 4 * t - i) by omega, Nat.pow_add, ← Nat.div_div_eq_div_mul, Nat.pow_mul, show (256 : Nat) ^ 4 = 4294967296 from rfl, h, Nat.zero_div])
  generalize be 20 N = E at *
  unfold bvs
  rw [← List.map_take, e]
theorem still_load_u8 {S : World → Prop} {o : Oper} {a : Act} {x : Operand} (ho : o.op = .load 5 x) {ad : Addr} (hx : a.eval x = .pointer (some ad)) {p : Int} (hc : ∀ w', S w' → w'.cell? ad = some (.int .u8 p)) :
    ∀ w', S w' → (execOp a.eval o).run Try.prog w' = .ok (.value (.int .u8 p)) w' := by
  intro w' hS
  have h := hc w' hS
  unfold execOp
  simp only [ho, hx]
  go_simp
theorem call_b62 {S : World → Prop} {o : Oper} {a : Act} {x : Operand} {t : TypeId} (ho : o.op = .call { callee := .value (.func 84), args := #[x], argTypes := #[t] }) {n : Int} (hx : a.eval x = .int .u8 n) : ∀ w', S w' → (execOp a.eval o).run Try.prog w' = .ok (.enter 84 #[.int .u8 n]) w' := by
  intro w' _
  unfold execOp
  simp only [ho, resolve, hx, List.map_toArray, List.map_cons, List.map_nil]
  go_simp
def Z27 : List Value := List.replicate 27 (.int .u8 0)
theorem arr27 : Arr Try.prog 104 27 Z27 where
  und := ⟨_, Try.underlying104, rfl⟩
  size := by kernel_rfl
  zero := fun w => by kernel_rfl
  len := rfl
theorem arr20 : Arr Try.prog 58 20 Z20 where
  und := ⟨_, Try.underlying58, rfl⟩
  size := by kernel_rfl
  zero := fun w => by kernel_rfl
  len := rfl
/-- The values of the digits. -/
def digs (T : List UInt8) : List Value := [.int .u8 (v62 (B T 0) : Nat), .int .u8 (v62 (B T 1) : Nat), .int .u8 (v62 (B T 2) : Nat), .int .u8 (v62 (B T 3) : Nat), .int .u8 (v62 (B T 4) : Nat), .int .u8 (v62 (B T 5) : Nat), .int .u8 (v62 (B T 6) : Nat), .int .u8 (v62 (B T 7) : Nat), .int .u8 (v62 (B T 8) : Nat), .int .u8 (v62 (B T 9) : Nat), .int .u8 (v62 (B T 10) : Nat), .int .u8 (v62 (B T 11) : Nat), .int .u8 (v62 (B T 12) : Nat), .int .u8 (v62 (B T 13) : Nat), .int .u8 (v62 (B T 14) : Nat), .int .u8 (v62 (B T 15) : Nat), .int .u8 (v62 (B T 16) : Nat), .int .u8 (v62 (B T 17) : Nat), .int .u8 (v62 (B T 18) : Nat), .int .u8 (v62 (B T 19) : Nat), .int .u8 (v62 (B T 20) : Nat), .int .u8 (v62 (B T 21) : Nat), .int .u8 (v62 (B T 22) : Nat), .int .u8 (v62 (B T 23) : Nat), .int .u8 (v62 (B T 24) : Nat), .int .u8 (v62 (B T 25) : Nat), .int .u8 (v62 (B T 26) : Nat)]
theorem digs_eq (T : List UInt8) : digs T = (List.range 27).map fun i => .int .u8 (v62 (B T i) : Nat) := rfl
theorem still_build {P : Program} {S : World → Prop} {o : Oper} {a : Act} {t : TypeId} {parts : Array (Nat × Operand)} (ho : o.op = .build t parts) {vs : Array (Nat × Value)} (hv : (parts.map fun (i, x) => (i, a.eval x)) = vs) {r : Value} (hb : ∀ w, (Instr.build t vs).run P w = .ok r w) :
    ∀ w', S w' → (execOp a.eval o).run P w' = .ok (.value r) w' := by
  intro w' _
  unfold execOp
  simp only [ho, hv, Sem.run_bind, hb w', Result.andThen_ok, Sem.run_pure]
theorem build27 (n0 n1 n2 n3 n4 n5 n6 n7 n8 n9 n10 n11 n12 n13 n14 n15 n16 n17 n18 n19 n20 n21 n22 n23 n24 n25 n26 : Int) (w : World) : (Instr.build 104 #[(0, .int .u8 n0), (1, .int .u8 n1), (2, .int .u8 n2), (3, .int .u8 n3), (4, .int .u8 n4), (5, .int .u8 n5), (6, .int .u8 n6), (7, .int .u8 n7), (8, .int .u8 n8), (9, .int .u8 n9), (10, .int .u8 n10), (11, .int .u8 n11), (12, .int .u8 n12), (13, .int .u8 n13), (14, .int .u8 n14), (15, .int .u8 n15), (16, .int .u8 n16), (17, .int .u8 n17), (18, .int .u8 n18), (19, .int .u8 n19), (20, .int .u8 n20), (21, .int .u8 n21), (22, .int .u8 n22), (23, .int .u8 n23), (24, .int .u8 n24), (25, .int .u8 n25), (26, .int .u8 n26)]).run Try.prog w = .ok (.agg #[.int .u8 n0, .int .u8 n1, .int .u8 n2, .int .u8 n3, .int .u8 n4, .int .u8 n5, .int .u8 n6, .int .u8 n7, .int .u8 n8, .int .u8 n9, .int .u8 n10, .int .u8 n11, .int .u8 n12, .int .u8 n13, .int .u8 n14, .int .u8 n15, .int .u8 n16, .int .u8 n17, .int .u8 n18, .int .u8 n19, .int .u8 n20, .int .u8 n21, .int .u8 n22, .int .u8 n23, .int .u8 n24, .int .u8 n25, .int .u8 n26]) w := by kernel_rfl
theorem digs_one (T : List UInt8) : ∀ u ∈ digs T, u.oneCell' = true := by
  intro u hu
  rw [digs_eq] at hu
  obtain ⟨_, _, rfl⟩ := List.mem_map.1 hu
  rfl
theorem splice_end (cs l : List Value) (h : l.length = 20) (hc : cs.length = 20) : splice cs 20 (l.drop 20) = cs := by
  rw [List.drop_of_length_le (by omega)]
  exact splice_nil _ _
/-- The frame behind i of the digits. -/
def fr (sl : Value) (pt bt dt : Nat → Value) (base : Array Value) : Nat → Array Value
  | 0 => base
  | i + 1 => ((((fr sl pt bt dt base i).setIfInBounds (19 + 4 * i) sl).setIfInBounds (20 + 4 * i) (pt i)).setIfInBounds (21 + 4 * i) (bt i)).setIfInBounds (22 + 4 * i) (dt i)
theorem fr_size (sl : Value) (pt bt dt : Nat → Value) (base : Array Value) : ∀ i, (fr sl pt bt dt base i).size = base.size
  | 0 => rfl
  | i + 1 => by unfold fr; simp [fr_size sl pt bt dt base i]
theorem getD_set_self' {A : Array Value} {i : Nat} {v : Value} (h : i < A.size) : (A.setIfInBounds i v).getD i undef = v := by simp [Array.getD_eq_getD_getElem?, h]
theorem eval_set {A : Array Value} {i : Nat} {v : Value} (h : i < A.size) : Act.eval ⟨A.setIfInBounds i v, []⟩ (.tmp i) = v := getD_set_self' h
theorem getD_set_other {A : Array Value} {i j : Nat} {v : Value} (h : i ≠ j) : (A.setIfInBounds i v).getD j undef = A.getD j undef := by
  rw [Array.getD_eq_getD_getElem?, Array.getD_eq_getD_getElem?, Array.getElem?_setIfInBounds_ne h]
theorem fr_one (sl : Value) (pt bt dt : Nat → Value) (base : Array Value) : ∀ i, (fr sl pt bt dt base i).getD 1 undef = base.getD 1 undef
  | 0 => rfl
  | i + 1 => by
    unfold fr
    rw [getD_set_other (by omega), getD_set_other (by omega), getD_set_other (by omega), getD_set_other (by omega)]
    exact fr_one sl pt bt dt base i
/-- What an operation is, without its edges, its type and its place. -/
def core (o : Oper) : Op × Option Tmp × Option (Nat × Bool) := (o.op, o.dst, o.guard)
/-- The four operations of digit i. -/
structure Grp (l : List Oper) (i : Nat) : Prop where
  m : (l[4 * i]?).map core = some (.move (.tmp 1), some (19 + 4 * i), none)
  x : (l[4 * i + 1]?).map core = some (.indexAddr 22 (.tmp (19 + 4 * i)) (.const (.int .i64 (i : Int))), some (20 + 4 * i), none)
  d : (l[4 * i + 2]?).map core = some (.load 5 (.tmp (20 + 4 * i)), some (21 + 4 * i), none)
  c : ∃ t, (l[4 * i + 3]?).map core = some (.call { callee := .value (.func 84), args := #[.tmp (21 + 4 * i)], argTypes := #[t] }, some (22 + 4 * i), none)
theorem wanted_none {ops : Array Oper} {o : Oper} {tm : Array Value} (h : o.guard = none) : Region.wanted o (yielded ops tm) = true := by unfold Region.wanted; rw [h]
theorem lex_step {P : Program} {OPS : Array Oper} {Q : Exit → Act → World → Prop} {S : World → Prop} {l : List Oper} {k r : Nat} {tail : List (Nat × Nat)} {a : Act} {w : World} {c : Op × Option Tmp × Option (Nat × Bool)} (hl : (l[k]?).map core = some c)
    (h : ∀ o, core o = c → wpPlan P OPS Q S ((0, o) :: planOps2 l ((List.range' (k + 1) r).map (fun i => ((i, 0) : Nat × Nat)) ++ tail)) a w) :
    wpPlan P OPS Q S (planOps2 l ((List.range' k (r + 1)).map (fun i => ((i, 0) : Nat × Nat)) ++ tail)) a w := by
  obtain ⟨o, ho, hc⟩ := Option.map_eq_some_iff.1 hl
  rw [List.range'_succ, List.map_cons, List.cons_append]
  have e : planOps2 l ((k, 0) :: ((List.range' (k + 1) r).map (fun i => ((i, 0) : Nat × Nat)) ++ tail)) = (0, strip o) :: planOps2 l ((List.range' (k + 1) r).map (fun i => ((i, 0) : Nat × Nat)) ++ tail) := by
    conv => lhs; unfold planOps2
    rw [List.filterMap_cons]
    simp only [ho, Option.map_some]
    rfl
  rw [e]
  exact h _ hc
theorem dec_groups {OPS : Array Oper} {Q : Exit → Act → World → Prop} {S : World → Prop} {l : List Oper} {tail : List (Nat × Nat)} {w : World} {b o1 : Nat} {T : List UInt8} {base : Array Value} {sl : Value} {pt bt dt : Nat → Value} (hsl : sl = .slice (some ⟨b, o1, none⟩) 27 27) (hpt : ∀ i, pt i = .pointer (some ⟨b, o1 + i, none⟩)) (hbt : ∀ i, bt i = .int .u8 (B T i : Nat)) (hdt : ∀ i, dt i = .int .u8 (v62 (B T i) : Nat)) (hsz : 127 ≤ base.size) (h1 : base.getD 1 undef = sl)
    (hg : ∀ i, i < 27 → Grp l i) (hc : ∀ i, i < 27 → ∀ w', S w' → w'.cell? ⟨b, o1 + i, none⟩ = some (.int .u8 (B T i))) (hi : ∀ i, i < 27 → is62 (B T i)) :
    ∀ n i, i + n = 27 → wpPlan Try.prog OPS Q S (planOps2 l ((List.range' 108 1).map (fun i => ((i, 0) : Nat × Nat)) ++ tail)) ⟨fr sl pt bt dt base 27, []⟩ w →
      wpPlan Try.prog OPS Q S (planOps2 l ((List.range' (4 * i) (109 - 4 * i)).map (fun i => ((i, 0) : Nat × Nat)) ++ tail)) ⟨fr sl pt bt dt base i, []⟩ w := by
  intro n
  induction n with
  | zero =>
    intro i hi h
    obtain rfl : i = 27 := by omega
    exact h
  | succ n ih =>
    intro i hin h
    have hlt : i < 27 := by omega
    have ih' := ih (i + 1) (by omega) h
    have hs := fr_size sl pt bt dt base i
    have h1' := (fr_one sl pt bt dt base i).trans h1
    obtain ⟨gm, gx, gd, ⟨ct, gc⟩⟩ := hg i hlt
    have hci := hc i hlt
    have hii := hi i hlt
    rw [show 4 * (i + 1) = 4 * i + 4 by omega, show 109 - (4 * i + 4) = 105 - 4 * i by omega] at ih'
    rw [show 109 - 4 * i = 105 - 4 * i + 1 + 1 + 1 + 1 by omega]
    clear hg hc hi ih h
    unfold fr at ih'
    generalize fr sl pt bt dt base i = A at *
    have e_p := hpt i
    have e_b := hbt i
    have e_d := hdt i
    rw [e_p, e_b, e_d, hsl] at ih'
    rw [hsl] at h1'
    clear hpt hbt hdt
    refine lex_step gm fun o1' e1 => ?_
    obtain ⟨p1, p2, p3⟩ : o1'.op = .move (.tmp 1) ∧ o1'.dst = some (19 + 4 * i) ∧ o1'.guard = none := by
      simpa [core] using e1
    refine plan_move (wanted_none p3) p1 ?_
    refine lex_step gx fun o2 e2 => ?_
    obtain ⟨q1, q2, q3⟩ : o2.op = .indexAddr 22 (.tmp (19 + 4 * i)) (.const (.int .i64 (i : Int))) ∧ o2.dst = some (20 + 4 * i) ∧ o2.guard = none := by
      simpa [core] using e2
    have v1 : (Act.put (⟨A, []⟩ : Act) o1'.dst (Act.eval ⟨A, []⟩ (.tmp 1))) = ⟨A.setIfInBounds (19 + 4 * i) (.slice (some ⟨b, o1, none⟩) 27 27), []⟩ := by
      rw [p2]
      show (⟨A.setIfInBounds (19 + 4 * i) (A.getD 1 undef), []⟩ : Act) = _
      rw [h1']
    rw [v1]
    refine plan_still (wanted_none q3) (still_index q1 Try.underlying22 (by kernel_rfl) (b := b) (off := o1) (n := 27) (c := 27) (eval_set (by omega)) i rfl hlt) ?_
    have v2 : (Act.put (⟨A.setIfInBounds (19 + 4 * i) (.slice (some ⟨b, o1, none⟩) 27 27), []⟩ : Act) o2.dst (.pointer (some ⟨b, o1 + i, none⟩))) = ⟨(A.setIfInBounds (19 + 4 * i) (.slice (some ⟨b, o1, none⟩) 27 27)).setIfInBounds (20 + 4 * i) (.pointer (some ⟨b, o1 + i, none⟩)), []⟩ := by rw [q2]; rfl
    rw [v2]
    clear v1 v2 e1 e2
    have hs2 : ((A.setIfInBounds (19 + 4 * i) (.slice (some ⟨b, o1, none⟩) 27 27)).size) = base.size := by rw [Array.size_setIfInBounds]; exact hs
    generalize A.setIfInBounds (19 + 4 * i) (.slice (some ⟨b, o1, none⟩) 27 27) = A2 at *
    refine lex_step gd fun o3 e3 => ?_
    obtain ⟨r1, r2, r3⟩ : o3.op = .load 5 (.tmp (20 + 4 * i)) ∧ o3.dst = some (21 + 4 * i) ∧ o3.guard = none := by
      simpa [core] using e3
    refine plan_still (wanted_none r3) (still_load_u8 (p := (B T i : Nat)) r1 (eval_set (by omega)) hci) ?_
    have v3 : (Act.put (⟨A2.setIfInBounds (20 + 4 * i) (.pointer (some ⟨b, o1 + i, none⟩)), []⟩ : Act) o3.dst (.int .u8 (B T i : Nat))) = ⟨(A2.setIfInBounds (20 + 4 * i) (.pointer (some ⟨b, o1 + i, none⟩))).setIfInBounds (21 + 4 * i) (.int .u8 (B T i : Nat)), []⟩ := by rw [r2]; rfl
    rw [v3]
    clear v3 e3
    have hs3 : ((A2.setIfInBounds (20 + 4 * i) (.pointer (some ⟨b, o1 + i, none⟩))).size) = base.size := by rw [Array.size_setIfInBounds]; exact hs2
    generalize A2.setIfInBounds (20 + 4 * i) (.pointer (some ⟨b, o1 + i, none⟩)) = A3 at *
    refine lex_step gc fun o4 e4 => ?_
    obtain ⟨t1, t2, t3⟩ : o4.op = .call { callee := .value (.func 84), args := #[.tmp (21 + 4 * i)], argTypes := #[ct] } ∧ o4.dst = some (22 + 4 * i) ∧ o4.guard = none := by
      simpa [core] using e4
    refine plan_call (v := .int .u8 (v62 (B T i) : Nat)) (wanted_none t3) (call_b62 t1 (eval_set (by omega))) (fun w' _ => b62_ok _ hii w') ?_
    have v4 : (Act.put (⟨A3.setIfInBounds (21 + 4 * i) (.int .u8 (B T i : Nat)), []⟩ : Act) o4.dst (.int .u8 (v62 (B T i) : Nat))) = ⟨(A3.setIfInBounds (21 + 4 * i) (.int .u8 (B T i : Nat))).setIfInBounds (22 + 4 * i) (.int .u8 (v62 (B T i) : Nat)), []⟩ := by rw [t2]; rfl
    rw [v4]
    exact ih'
theorem fr_dig {sl : Value} {pt bt dt : Nat → Value} {base : Array Value} (hsz : 127 ≤ base.size) : ∀ i, i ≤ 27 → ∀ j, j < i → (fr sl pt bt dt base i).getD (22 + 4 * j) undef = dt j
  | 0, _, j, h => by omega
  | i + 1, hi, j, h => by
    have hs := fr_size sl pt bt dt base i
    unfold fr
    by_cases e : j = i
    · subst e
      exact getD_set_self' (by simp only [Array.size_setIfInBounds]; omega)
    · rw [getD_set_other (by omega), getD_set_other (by omega), getD_set_other (by omega), getD_set_other (by omega)]
      exact fr_dig hsz i (by omega) j (by omega)
theorem range_parts (T : List UInt8) : (((List.range 27).map fun j => ((j, .int .u8 (v62 (B T j) : Nat)) : Nat × Value)).toArray) = #[(0, .int .u8 (v62 (B T 0) : Nat)), (1, .int .u8 (v62 (B T 1) : Nat)), (2, .int .u8 (v62 (B T 2) : Nat)), (3, .int .u8 (v62 (B T 3) : Nat)), (4, .int .u8 (v62 (B T 4) : Nat)), (5, .int .u8 (v62 (B T 5) : Nat)), (6, .int .u8 (v62 (B T 6) : Nat)), (7, .int .u8 (v62 (B T 7) : Nat)), (8, .int .u8 (v62 (B T 8) : Nat)), (9, .int .u8 (v62 (B T 9) : Nat)), (10, .int .u8 (v62 (B T 10) : Nat)), (11, .int .u8 (v62 (B T 11) : Nat)), (12, .int .u8 (v62 (B T 12) : Nat)), (13, .int .u8 (v62 (B T 13) : Nat)), (14, .int .u8 (v62 (B T 14) : Nat)), (15, .int .u8 (v62 (B T 15) : Nat)), (16, .int .u8 (v62 (B T 16) : Nat)), (17, .int .u8 (v62 (B T 17) : Nat)), (18, .int .u8 (v62 (B T 18) : Nat)), (19, .int .u8 (v62 (B T 19) : Nat)), (20, .int .u8 (v62 (B T 20) : Nat)), (21, .int .u8 (v62 (B T 21) : Nat)), (22, .int .u8 (v62 (B T 22) : Nat)), (23, .int .u8 (v62 (B T 23) : Nat)), (24, .int .u8 (v62 (B T 24) : Nat)), (25, .int .u8 (v62 (B T 25) : Nat)), (26, .int .u8 (v62 (B T 26) : Nat))] := by kernel_rfl
theorem build_digs (T : List UInt8) (w : World) : (Instr.build 104 (((List.range 27).map fun j => ((j, .int .u8 (v62 (B T j) : Nat)) : Nat × Value)).toArray)).run Try.prog w = .ok (.agg (digs T).toArray) w := by
  rw [range_parts]
  exact build27 _ _ _ _ _ _ _ _ _ _ _ _ _ _ _ _ _ _ _ _ _ _ _ _ _ _ _ w
theorem dec_build {OPS : Array Oper} {Q : Exit → Act → World → Prop} {S : World → Prop} {l : List Oper} {tail : List (Nat × Nat)} {w : World} {T : List UInt8} {F : Array Value} {parts : Array (Nat × Operand)}
    (hfd : ∀ j, j < 27 → F.getD (22 + 4 * j) undef = .int .u8 (v62 (B T j) : Nat))
    (hb : (l[108]?).map core = some (.build 104 parts, some 127, none)) (hp : parts.toList = (List.range 27).map fun j => (j, Operand.tmp (22 + 4 * j)))
    (h : wpPlan Try.prog OPS Q S (planOps2 l tail) ⟨F.setIfInBounds 127 (.agg (digs T).toArray), []⟩ w) :
    wpPlan Try.prog OPS Q S (planOps2 l ((List.range' 108 1).map (fun i => ((i, 0) : Nat × Nat)) ++ tail)) ⟨F, []⟩ w := by
  refine lex_step hb fun o e => ?_
  obtain ⟨q1, q2, q3⟩ : o.op = .build 104 parts ∧ o.dst = some 127 ∧ o.guard = none := by
    simpa [core] using e
  have hv : (parts.map fun (i, x) => (i, Act.eval ⟨F, []⟩ x)) = ((List.range 27).map fun j => ((j, .int .u8 (v62 (B T j) : Nat)) : Nat × Value)).toArray := by
    apply Array.toList_inj.1
    rw [Array.toList_map, hp, List.map_map, List.toList_toArray]
    refine List.map_congr_left fun j hj => ?_
    have hd : Act.eval ⟨F, []⟩ (.tmp (22 + 4 * j)) = .int .u8 (v62 (B T j) : Nat) := hfd j (List.mem_range.1 hj)
    simp only [Function.comp, hd]
  have hbd := build_digs T
  generalize (((List.range 27).map fun j => ((j, .int .u8 (v62 (B T j) : Nat)) : Nat × Value)).toArray) = V at *
  refine plan_still (v := .agg (digs T).toArray) (wanted_none q3) (still_build q1 hv hbd) ?_
  rw [q2]
  exact h
/-- A byte stored, by its number. -/
theorem wp_store_b {P : Program} {ops : Array Oper} {rest : List Oper} {o : Oper} {a : Act} {w : World} {Q : Exit → Act → World → Prop} (hgd : o.guard = none) {ty : TypeId} {x y : Operand} (ho : o.op = .store ty x y) (hs : (P.info? ty).map (·.size) = some 1)
    {g i : Nat} (hx : a.eval x = .pointer (some ⟨g, i, none⟩)) {E : Int} (hy : a.eval y = .int .u8 E) (m : Nat) (hE : E = (m : Int)) {cs : List Value} {t : TypeId} (hg : Blk w g cs t) (hi : i < cs.length)
    (h : ∀ w', Blk w' g (cs.set i (.int .u8 m)) t → w.grownBy w' (some g) → w'.heap.size = w.heap.size → wpList P ops Q rest (a.put o.dst undef) w') : wpList P ops Q (o :: rest) a w := by
  subst hE
  exact wp_store_cell hgd ho hs hx hy rfl hg hi h
theorem lt27 {P : Nat → Prop} (h : P 0 ∧ P 1 ∧ P 2 ∧ P 3 ∧ P 4 ∧ P 5 ∧ P 6 ∧ P 7 ∧ P 8 ∧ P 9 ∧ P 10 ∧ P 11 ∧ P 12 ∧ P 13 ∧ P 14 ∧ P 15 ∧ P 16 ∧ P 17 ∧ P 18 ∧ P 19 ∧ P 20 ∧ P 21 ∧ P 22 ∧ P 23 ∧ P 24 ∧ P 25 ∧ P 26) : ∀ k, k < 27 → P k := by
  obtain ⟨h0, h1, h2, h3, h4, h5, h6, h7, h8, h9, h10, h11, h12, h13, h14, h15, h16, h17, h18, h19, h20, h21, h22, h23, h24, h25, h26⟩ := h
  intro k hk
  have : k = 0 ∨ k = 1 ∨ k = 2 ∨ k = 3 ∨ k = 4 ∨ k = 5 ∨ k = 6 ∨ k = 7 ∨ k = 8 ∨ k = 9 ∨ k = 10 ∨ k = 11 ∨ k = 12 ∨ k = 13 ∨ k = 14 ∨ k = 15 ∨ k = 16 ∨ k = 17 ∨ k = 18 ∨ k = 19 ∨ k = 20 ∨ k = 21 ∨ k = 22 ∨ k = 23 ∨ k = 24 ∨ k = 25 ∨ k = 26 := by omega
  rcases this with rfl | rfl | rfl | rfl | rfl | rfl | rfl | rfl | rfl | rfl | rfl | rfl | rfl | rfl | rfl | rfl | rfl | rfl | rfl | rfl | rfl | rfl | rfl | rfl | rfl | rfl | rfl
  · exact h0
  · exact h1
  · exact h2
  · exact h3
  · exact h4
  · exact h5
  · exact h6
  · exact h7
  · exact h8
  · exact h9
  · exact h10
  · exact h11
  · exact h12
  · exact h13
  · exact h14
  · exact h15
  · exact h16
  · exact h17
  · exact h18
  · exact h19
  · exact h20
  · exact h21
  · exact h22
  · exact h23
  · exact h24
  · exact h25
  · exact h26

end Go.Proofs.Ytbacbgicfomkbaa
