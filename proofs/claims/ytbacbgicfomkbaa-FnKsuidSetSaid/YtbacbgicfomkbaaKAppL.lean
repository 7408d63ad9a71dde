/- What the making of a compressed set needs: laws of slices and single bytes, and the plain steps. -/
import Derived.Test.YtbacbgicfomkbaaKRange
import Derived.Test.YtbacbgicfomkbaaOwnK
namespace Go.Proofs.Ytbacbgicfomkbaa
open Go.RowKit
set_option linter.unusedVariables false
set_option linter.unusedSimpArgs false
theorem bvs_one1 (n : Nat) (h : n < 256) : bvs [UInt8.ofNat n] = [.int .u8 ((n : Nat) : Int)] := by
  unfold bvs bv
  rw [List.map_singleton, UInt8.toNat_ofNat', Nat.mod_eq_of_lt h]
theorem rd_part {w : World} {g off m : Nat} {cs : List Value} {t : TypeId} {bs : List UInt8} (h : Blk w g cs t) (hm : (cs.drop off).take m = bvs bs) (hl : bs.length = m) (hb : m ≤ 1000) : Rd w (some ⟨g, off, none⟩) bs := by
  refine ⟨by omega, .inr ⟨g, off, rfl, fun i hi => ?_⟩⟩
  have hv := bvs_get bs i hi
  rw [← hm, List.getElem?_take, List.getElem?_drop, if_pos (by omega)] at hv
  rw [h.cell]
  exact hv
section
variable {P : Program} {ops : Array Oper} {rest : List Oper} {o : Oper} {a : Act} {w : World} {Q : Exit → Act → World → Prop} {x y : Operand} {t e n : Nat}
/-- A literal of one byte. -/
theorem wp_byte1 (hgd : o.guard = none) (ho : o.op = .buildSlice t 1 #[(0, x)]) (hu : P.underlying t = some (.slice e)) {ie : TypeInfo} (hie : P.info? e = some ie) (hz : ie.zero = some (.int .u8 0)) (hs : ie.size = 1) {m : Nat} (hx : a.eval x = .int .u8 ((m : Nat) : Int)) (hm : m < 256) {N : Nat} (hN : w.heap.size = N)
    (h : ∀ w', Blk w' N (bvs [UInt8.ofNat m]) e → w.grownBy w' none → w'.heap.size = N + 1 → wpList P ops Q rest (a.put o.dst (.slice (some ⟨N, 0, none⟩) 1 1)) w') : wpList P ops Q (o :: rest) a w := by
  subst hN
  refine wpList_buildSlice hgd t e 1 #[(0, x)] ho #[.int .u8 ((m : Nat) : Int)] ie (.int .u8 0) hu hie hz (by rw [hs]; decide) (by rw [hs]; decide) ?_ ?_
  · simp only [List.map_toArray, List.map_cons, List.map_nil, hx, Nat.one_mul, hs]
    kernel_rfl
  · refine h _ ?_ (World.grownBy_alloc w _ none) (by simp)
    rw [bvs_one1 m hm]
    exact Blk.new w _ e
theorem do_arrAll (ho : o.op = .slice t x none none none) (hu : P.underlying t = some (.array n e)) (hs : (P.info? e).map (·.size) = some 1)
    {g off : Nat} (hx : a.eval x = .pointer (some ⟨g, off, none⟩)) (h0 : 0 < n) : (execOp a.eval o).run P w = .ok (.value (.slice (some ⟨g, off, none⟩) n n)) w := by
  cases hq : P.info? e with
  | none => simp [hq] at hs
  | some inf =>
    have hs1 : inf.size = 1 := by simpa [hq] using hs
    have h1 : ¬ n = 0 := by omega
    unfold execOp
    simp [ho, hx, Instr.sliceAt, Instr.sureAddr, run_underlying hu, Instr.sliceBounds, Instr.sliceBound, asIntOf, sizeOf, typeInfo, hq, Result.andThen, h1, hs1, Addr.add]
theorem do_arrFrom (ho : o.op = .slice t x (some y) none none) (hu : P.underlying t = some (.array n e)) (hs : (P.info? e).map (·.size) = some 1)
    {g off h : Nat} (hx : a.eval x = .pointer (some ⟨g, off, none⟩)) (hy : a.eval y = .int .i64 (h : Int)) (hh : h < n) : (execOp a.eval o).run P w = .ok (.value (.slice (some ⟨g, off + h, none⟩) (n - h) (n - h))) w := by
  cases hq : P.info? e with
  | none => simp [hq] at hs
  | some inf =>
    have hs1 : inf.size = 1 := by simpa [hq] using hs
    have h1 : ¬ n = h := by omega
    have h2 : h ≤ n := by omega
    unfold execOp
    simp [ho, hx, hy, Instr.sliceAt, Instr.sureAddr, run_underlying hu, Instr.sliceBounds, Instr.sliceBound, asIntOf, sizeOf, typeInfo, hq, Result.andThen, h1, h2, hs1, Addr.add]
theorem do_arrTo (ho : o.op = .slice t x none (some y) none) (hu : P.underlying t = some (.array n e)) (hs : (P.info? e).map (·.size) = some 1)
    {g off h : Nat} (hx : a.eval x = .pointer (some ⟨g, off, none⟩)) (hy : a.eval y = .int .i64 (h : Int)) (hh : h ≤ n) : (execOp a.eval o).run P w = .ok (.value (.slice (some ⟨g, off, none⟩) h n)) w := by
  cases hq : P.info? e with
  | none => simp [hq] at hs
  | some inf =>
    have hs1 : inf.size = 1 := by simpa [hq] using hs
    unfold execOp
    simp [ho, hx, hy, Instr.sliceAt, Instr.sureAddr, run_underlying hu, Instr.sliceBounds, Instr.sliceBound, asIntOf, sizeOf, typeInfo, hq, Result.andThen, hh, hs1, Addr.add]
/-- Where the tail of a slice of KSUIDs begins. -/
def tailK (g c k : Nat) : Option Addr := if c = k then some ⟨g, 0, none⟩ else some ⟨g, k * 20, none⟩
theorem do_tailK (ho : o.op = .slice t x (some y) none none) (hu : P.underlying t = some (.slice e)) (hs : (P.info? e).map (·.size) = some 20)
    {g c k : Nat} (hx : a.eval x = .slice (some ⟨g, 0, none⟩) n c) (hy : a.eval y = .int .i64 (k : Int)) (h0 : 0 < k) (hk : k ≤ n) (hc : n ≤ c) : (execOp a.eval o).run P w = .ok (.value (.slice (tailK g c k) (n - k) (c - k))) w := by
  cases hq : P.info? e with
  | none => simp [hq] at hs
  | some inf =>
    have hs1 : inf.size = 20 := by simpa [hq] using hs
    unfold execOp tailK
    simp [ho, hx, hy, Instr.sliceAt, run_underlying hu, Instr.slice, Instr.sliceBounds, Instr.sliceBound, asIntOf, sizeOf, typeInfo, hq, Result.andThen, hk, hs1, Addr.add]
    split <;> simp_all
    all_goals omega
theorem do_notB (ho : o.op = .unOp .not t x) (hu : P.underlying t = some .bool) {b : Bool} (hx : a.eval x = .bool b) : (execOp a.eval o).run P w = .ok (.value (.bool (!b))) w := by
  unfold execOp
  simp only [ho, hx]
  go_simp
theorem do_orB {c : Int} (ho : o.op = .binOp .or t (.const (.int .u8 c)) x e) (hu : P.underlying t = some (.int .u8)) {m r : Nat} (hx : a.eval x = .int .u8 ((m : Nat) : Int)) (hb : bits .or .u8 c (m : Int) = ((r : Nat) : Int)) : (execOp a.eval o).run P w = .ok (.value (.int .u8 ((r : Nat) : Int))) w := by
  have hc : a.eval (.const (.int .u8 c)) = .int .u8 c := rfl
  unfold execOp
  simp only [ho, hx, hc]
  go_simp
end
theorem or64s : ∀ n : Fin 17, bits .or .u8 64 (((n : Nat) : Nat) : Int) = ((64 + n : Nat) : Int) := by decide
theorem or128s : ∀ n : Fin 17, bits .or .u8 128 (((n : Nat) : Nat) : Int) = ((128 + n : Nat) : Int) := by decide
theorem or192s : ∀ n : Fin 17, bits .or .u8 192 (((n : Nat) : Nat) : Int) = ((192 + n : Nat) : Int) := by decide
theorem or64n (n : Nat) (h : n ≤ 16) : bits .or .u8 64 (n : Int) = ((64 + n : Nat) : Int) := or64s ⟨n, by omega⟩
theorem or128n (n : Nat) (h : n ≤ 16) : bits .or .u8 128 (n : Int) = ((128 + n : Nat) : Int) := or128s ⟨n, by omega⟩
theorem or192n (n : Nat) (h : n ≤ 16) : bits .or .u8 192 (n : Int) = ((192 + n : Nat) : Int) := or192s ⟨n, by omega⟩
/-! The plain steps. -/
theorem Asc.drop {ks : List (List UInt8)} (h : Asc ks) (k : Nat) : Asc (ks.drop k) := by
  intro i hi
  rw [List.length_drop] at hi
  have e : ∀ j, (ks.drop k).getD j [] = ks.getD (k + j) [] := fun j => by rw [List.getD_eq_getElem?_getD, List.getElem?_drop, ← List.getD_eq_getElem?_getD]
  rw [e, e]
  exact h (k + i) (by omega)
theorem drop_at {ks : List (List UInt8)} {i : Nat} (h : i < ks.length) : ks.drop i = ks.getD i [] :: ks.drop (i + 1) := by
  rw [List.drop_eq_getElem_cons h]
  congr 1
  rw [List.getD_eq_getElem?_getD, List.getElem?_eq_getElem h]
  rfl
theorem getD_drop' (ks : List (List UInt8)) (k j : Nat) : (ks.drop k).getD j [] = ks.getD (k + j) [] := by rw [List.getD_eq_getElem?_getD, List.getElem?_drop, ← List.getD_eq_getElem?_getD]
theorem enc_time {t v d n i : Nat} {ss : List (List UInt8)} {y : List UInt8} (hi : i < ss.length) (hy : y = ss.getD i []) (h20 : y.length = 20) (h1 : 1 ≤ n) (h4 : n ≤ 4) (hd : d < 256 ^ n) (ht : tOf y = t + d) {b : List UInt8} (h : Enc (tOf y) (vOf y) (ss.drop (i + 1)) b) : Enc t v (ss.drop i) (UInt8.ofNat (64 + n) :: (be n d ++ (y.drop 4 ++ b))) := by
  have e := kid_of y h20
  have hlt := tOf_lt y
  have hp : y.drop 4 = be 16 (vOf y) := by
    conv => lhs; rw [← e]
    exact List.drop_left' (be_length 4 _)
  have e2 : be 4 (t + d) ++ y.drop 4 = y := by rw [← ht, hp]; exact e
  have := Enc.time t v d n (y.drop 4) (ss.drop (i + 1)) b h1 h4 hd (by omega) (by rw [List.length_drop, h20]) (by rw [← ht]; exact h)
  rw [e2] at this
  rw [drop_at hi, ← hy]
  exact this
theorem enc_delta {t v d n i : Nat} {ss : List (List UInt8)} {y : List UInt8} (hi : i < ss.length) (hy : y = ss.getD i []) (h20 : y.length = 20) (h1 : 1 ≤ n) (h16 : n ≤ 16) (hd : d < 256 ^ n) (ht : tOf y = t) (hv : vOf y = v + d) {b : List UInt8} (h : Enc (tOf y) (vOf y) (ss.drop (i + 1)) b) : Enc t v (ss.drop i) (UInt8.ofNat (128 + n) :: (be n d ++ b)) := by
  have e := kid_of y h20
  have hlt := vOf_lt y h20
  rw [ht, hv] at h e
  have := Enc.delta t v d n (ss.drop (i + 1)) b h1 h16 hd (by omega) h
  rw [e] at this
  rw [drop_at hi, ← hy]
  exact this
theorem enc_range {t v l n i : Nat} {ss : List (List UInt8)} (hi : i + l < ss.length) (h20 : ∀ z ∈ ss, z.length = 20) (h1 : 1 ≤ n) (h8 : n ≤ 8) (hd : l + 1 < 256 ^ n) (h0 : tOf (ss.getD i []) = t ∧ vOf (ss.getD i []) = v + 1) (hl : ∀ j, j < l → tOf (ss.getD (i + 1 + j) []) = t ∧ vOf (ss.getD (i + 1 + j) []) = v + 1 + 1 + j)
    {b : List UInt8} (h : Enc (tOf (ss.getD (i + l) [])) (vOf (ss.getD (i + l) [])) (ss.drop (i + l + 1)) b) : Enc t v (ss.drop i) (UInt8.ofNat (192 + n) :: (be n (l + 1) ++ b)) := by
  have hall : ∀ j, j < l + 1 → tOf ((ss.drop i).getD j []) = t ∧ vOf ((ss.drop i).getD j []) = v + 1 + j := by
    intro j hj
    rw [getD_drop']
    cases j with
    | zero => exact h0
    | succ j =>
      have := hl j (by omega)
      rw [show i + 1 + j = i + (j + 1) by omega] at this
      exact ⟨this.1, by omega⟩
  have hr := runs_of t (l + 1) v (ss.drop i) (by rw [List.length_drop]; omega) (fun x hx => h20 x (List.mem_of_mem_drop hx)) hall
  have hlast := hall l (by omega)
  rw [getD_drop'] at hlast
  have hvl := vOf_lt _ (h20 _ (getD_mem (d := []) hi))
  rw [hlast.1, hlast.2, show v + 1 + l = v + (l + 1) by omega] at h
  rw [List.drop_drop] at hr
  rw [hr]
  exact Enc.range t v (l + 1) n _ b (by omega) h1 h8 hd (by omega) (by rw [show i + (l + 1) = i + l + 1 by omega]; exact h)
theorem enc_app {t v i : Nat} {ss : List (List UInt8)} {xs a c : List UInt8} (H : ∀ b, Enc t v (ss.drop i) b → Enc 0 0 ss (xs ++ b)) {t' v' i' : Nat} (h : ∀ b, Enc t' v' (ss.drop i') b → Enc t v (ss.drop i) (a ++ b)) (hc : c = xs ++ a) : ∀ b, Enc t' v' (ss.drop i') b → Enc 0 0 ss (c ++ b) := by
  intro b hb
  rw [hc, List.append_assoc]
  exact H _ (h b hb)
theorem OwnB.keptG {w w' : World} {base e : Nat} {v : Value} {xs : List UInt8} {row : Option Nat} (h : OwnB w base e v xs) (hb : w.grownBy w' row) (hr : v.ownBlock = none ∨ v.ownBlock ≠ row) : OwnB w' base e v xs := World.ownsRow.kept h hb hr
end Go.Proofs.Ytbacbgicfomkbaa
