/- Bytes that came out of a text: cells that may be written. Laws over any program. The reference's Upper, Lower and Place. -/
import Derived.Test.YtcojcohipmoopaaDoorGuard
import Derived.Laws.IdiomCopy
namespace Go.Proofs.YtcojcohipmoopaaDoor
open Go.RowKit
set_option linter.unusedVariables false
set_option linter.unusedSimpArgs false

/-- The cells of bytes that may be written. -/
def Fre (w : World) (g : Nat) (bs : List UInt8) : Prop := ∀ i, i < bs.length → w.cell? ⟨g, i, none⟩ = some (.int .u8 (B bs i : Nat)) ∧ w.frozen? ⟨g, i, none⟩ = false
theorem Fre.rd {w : World} {g : Nat} {bs : List UInt8} (h : Fre w g bs) (hl : bs.length ≤ 9223372036854775807) : Rd w (some ⟨g, 0, none⟩) bs :=
  ⟨hl, .inr ⟨g, 0, rfl, fun i hi => by rw [Nat.zero_add]; exact (h i hi).1⟩⟩
theorem frozen_below {B0 : Nat} {w w' : World} (hb : Below B0 w w') {a : Addr} (ha : a.block < B0) : w'.frozen? a = w.frozen? a := by
  unfold World.frozen?
  rw [hb.block _ ha]
theorem Fre.kept {w w' : World} {g : Nat} {bs : List UInt8} (h : Fre w g bs) (hb : Below w.heap.size w w') : Fre w' g bs := fun i hi => by
  obtain ⟨h1, h2⟩ := h i hi
  have hlt := World.block_lt_of_cell? w _ h1
  exact ⟨by rw [hb.cell hlt]; exact h1, by rw [frozen_below hb hlt]; exact h2⟩
section
variable {P : Program} {ops : Array Oper} {rest : List Oper} {o : Oper} {a : Act} {w : World} {Q : Exit → Act → World → Prop}
/-- '[]byte(s)', to be written. -/
theorem wp_of_string_f (hgd : Region.wanted o (yielded ops a.tmps) = true) {src dst e : TypeId} {x : Operand} (ho : o.op = .convert src dst x) (hs : P.underlying src = some .string) (hd : P.underlying dst = some (.slice e)) (he : P.underlying e = some (.int .u8))
    {bs : List UInt8} {s : ByteArray} (hsb : s = ⟨bs.toArray⟩) (hx : a.eval x = .string s) {n : Nat} (hn : bs.length = n)
    (h : ∀ g cap w', Fre w' g bs → w.heap.size ≤ g → Below w.heap.size w w' → n ≤ cap → wpList P ops Q rest (a.put o.dst (.slice (some ⟨g, 0, none⟩) n cap)) w') : wpList P ops Q (o :: rest) a w := by
  have hcap := grownCap_ge w s.size 0 e
  subst hn hsb
  refine wpList_wanted hgd fun K hK => ?_
  have hrun := run_bytes_of_string (P := P) w src dst e ⟨bs.toArray⟩ hs hd he
  unfold Oper.wp execOp
  simp only [ho, hx, Sem.run_bind, hrun, Result.andThen_ok]
  refine hK _ _ ?_
  have key : ∀ cap, Fre (w.drew.alloc (.cells (bytesRow ⟨bs.toArray⟩ cap) e ((bytesRow ⟨bs.toArray⟩ cap).size, (bytesRow ⟨bs.toArray⟩ cap).size + 1))) w.heap.size bs := by
    intro cap i hi
    have hc := World.cell?_alloc_mark w.drew (bytesRow ⟨bs.toArray⟩ cap) e ((bytesRow ⟨bs.toArray⟩ cap).size, (bytesRow ⟨bs.toArray⟩ cap).size + 1) i
    have hr := bytesRow_at ⟨bs.toArray⟩ cap i (by simpa using hi)
    refine ⟨Eq.trans hc (hr.trans (by simp [B, hi])), ?_⟩
    have hh : (w.drew.alloc (.cells (bytesRow ⟨bs.toArray⟩ cap) e ((bytesRow ⟨bs.toArray⟩ cap).size, (bytesRow ⟨bs.toArray⟩ cap).size + 1))).heap[w.heap.size]? = some (.cells (bytesRow ⟨bs.toArray⟩ cap) e ((bytesRow ⟨bs.toArray⟩ cap).size, (bytesRow ⟨bs.toArray⟩ cap).size + 1)) := heap_alloc_new w.drew _
    have hsz : i < (bytesRow ⟨bs.toArray⟩ cap).size := by
      have : (⟨bs.toArray⟩ : ByteArray).size = bs.length := by show bs.toArray.size = _; simp
      simp [bytesRow]; omega
    unfold World.frozen?
    rw [hh]
    simp only [Bool.and_eq_false_iff, decide_eq_false_iff_not]
    exact .inl (by show ¬ _ ≤ i; omega)
  have hb : ∀ ob, Below w.heap.size w (w.drew.alloc ob) := fun ob => (Below.mk rfl rfl rfl (Nat.le_refl _) (fun _ _ => rfl) : Below w.heap.size w w.drew).alloc (Nat.le_refl _) ob
  exact h w.heap.size (grownCap w (⟨bs.toArray⟩ : ByteArray).size 0 e) _ (key _) (Nat.le_refl _) (hb _) (by have : (⟨bs.toArray⟩ : ByteArray).size = bs.length := by { show bs.toArray.size = _; simp }; omega)
/-- A byte stored. -/
theorem wp_store_f {B0 : Nat} {w0 : World} (hgd : o.guard = none) {ty : TypeId} {x y : Operand} (ho : o.op = .store ty x y) (hs : (P.info? ty).map (·.size) = some 1)
    {g i : Nat} (hx : a.eval x = .pointer (some ⟨g, i, none⟩)) {E : Int} (hy : a.eval y = .int .u8 E) {bs : List UInt8} (hc : Fre w g bs) (hi : i < bs.length) (c : UInt8) (hE : E = (c.toNat : Int)) (hb : Below B0 w0 w) (hB : B0 ≤ g)
    (h : ∀ w', Fre w' g (bs.set i c) → Below B0 w0 w' → wpList P ops Q rest (a.put o.dst undef) w') : wpList P ops Q (o :: rest) a w := by
  subst hE
  refine wpList_plain hgd fun K hK => ?_
  obtain ⟨h1, h2⟩ := hc i hi
  have hst := run_storeCells_cells (P := P) g i [Value.int .u8 (c.toNat : Int)] 0 w (by intro j hj; have e : j = 0 := (by simpa using hj); subst e; simp [h1]) (by intro j hj; have e : j = 0 := (by simpa using hj); subst e; simpa using h2) (by simp [Value.oneCell'])
  unfold Oper.wp execOp
  cases hq : P.info? ty with
  | none => simp [hq] at hs
  | some inf =>
    have hsz : inf.size = 1 := by simpa [hq] using hs
    have hv : (Value.int .u8 (c.toNat : Int)).cells = #[Value.int .u8 (c.toNat : Int)] := rfl
    have hsv : (storeVar ty ⟨g, i, none⟩ (Value.int .u8 (c.toNat : Int))).run P w = .ok () (w.setCell ⟨g, i, none⟩ (Value.int .u8 (c.toNat : Int))) := by
      simp [storeVar, sizeOf, typeInfo, hq, hv, hsz, hst, World.setCells]
    simp only [ho, hx, hy, Instr.storeAt, Instr.sureAddr, Sem.run_bind, Sem.run_pure, Result.andThen_ok, hsv]
    refine hK _ _ (h _ ?_ (hb.setCell hB _))
    intro j hj
    rw [List.length_set] at hj
    obtain ⟨h3, h4⟩ := hc j hj
    refine ⟨?_, by rw [World.frozen?_setCell]; exact h4⟩
    by_cases e : i = j
    · subst e
      rw [World.cell?_setCell_same _ _ _ h1]
      simp [B, hi]
    · rw [World.cell?_setCell_other _ _ _ _ (by intro h'; cases h'; exact e rfl), h3]
      simp [B, e]
end
/-- Small letters as capital ones. -/
def upB (c : UInt8) : UInt8 := if 97 ≤ c ∧ c ≤ 122 then c - 32 else c
/-- Capital letters as small ones. -/
def loB (c : UInt8) : UInt8 := if 65 ≤ c ∧ c ≤ 90 then c + 32 else c
def loL (p : List UInt8) : List UInt8 := p.map loB
/-- The first k of the bytes turned. -/
def turned (f : UInt8 → UInt8) (p : List UInt8) (k : Nat) : List UInt8 := (p.take k).map f ++ p.drop k
theorem turned_length (f : UInt8 → UInt8) (p : List UInt8) (k : Nat) : (turned f p k).length = p.length := by simp [turned]; omega
theorem turned_zero (f : UInt8 → UInt8) (p : List UInt8) : turned f p 0 = p := by simp [turned]
theorem turned_end (f : UInt8 → UInt8) (p : List UInt8) : turned f p p.length = p.map f := by simp [turned]
theorem turned_at (f : UInt8 → UInt8) (p : List UInt8) (k : Nat) (hk : k < p.length) : B (turned f p k) k = B p k := by
  unfold B turned
  rw [List.getD_eq_getElem?_getD, List.getD_eq_getElem?_getD, List.getElem?_append_right (by simp; omega), List.length_map, List.length_take, Nat.min_eq_left (by omega), Nat.sub_self, List.getElem?_drop, Nat.add_zero]
theorem turned_set (f : UInt8 → UInt8) (p : List UInt8) (k : Nat) (hk : k < p.length) : (turned f p k).set k (f (p.getD k 0)) = turned f p (k + 1) := by
  have h1 : ((p.take k).map f).length = k := by rw [List.length_map, List.length_take]; omega
  unfold turned
  rw [List.set_append_right _ _ (by omega), h1, Nat.sub_self, List.take_succ_eq_append_getElem hk, List.map_append, List.drop_eq_getElem_cons hk, List.set_cons_zero, List.append_assoc]
  congr 1
  simp [hk]
theorem turned_same (f : UInt8 → UInt8) (p : List UInt8) (k : Nat) (hk : k < p.length) (h : f (p.getD k 0) = p.getD k 0) : turned f p (k + 1) = turned f p k := by
  rw [← turned_set f p k hk, h]
  apply List.ext_getElem
  · simp
  · intro i h1 h2
    rw [List.getElem_set]
    split
    · rename_i e
      subst e
      have := turned_at f p k hk
      apply UInt8.toNat_inj.1
      have h3 : k < (turned f p k).length := h2
      simpa [B, hk, h3] using this.symm
    · rfl
end Go.Proofs.YtcojcohipmoopaaDoor
