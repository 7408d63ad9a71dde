/- ULID's digits: the table that the rows list; the check of a strict reading, 26 signs one behind the other. -/
import Derived.Test.YtcojcohipmoopaaDoorUpLow
import Derived.Test.YtcojcohipmoopaaDoorAbs
import Derived.Test.YtcojcohipmoopaaDoorTextK
import Derived.Lib.LaidTab
namespace Go.Proofs.YtcojcohipmoopaaDoor
open Go.RowKit
set_option linter.unusedVariables false
set_option linter.unusedSimpArgs false

/-- The value of a digit of 32, or 255. -/
def cap32 (c : Nat) : Nat := if 97 ≤ c ∧ c ≤ 122 then c - 32 else c
def decU (u : Nat) : Nat := if 48 ≤ u ∧ u ≤ 57 then u - 48 else if 65 ≤ u ∧ u ≤ 72 then u - 55 else if u = 74 then 18 else if u = 75 then 19 else if u = 77 then 20 else if u = 78 then 21 else if 80 ≤ u ∧ u ≤ 84 then u - 58 else if 86 ≤ u ∧ u ≤ 90 then u - 59 else 255
def dec32 (c : Nat) : Nat := decU (cap32 c)
def dvals : List Int := (List.range 256).map fun c => ((dec32 c : Nat) : Int)
theorem decU_lt (u : Nat) : decU u < 256 := by unfold decU; repeat' split
                                               all_goals omega
theorem dec32_lt (c : Nat) : dec32 c < 256 := decU_lt _
/-- The table in memory. -/
def DTab (w : World) : Prop := ∀ c, c < 256 → w.cell? ⟨0, c, none⟩ = some (.int .u8 ((dec32 c : Nat) : Int))
theorem DTab.kept {w w' : World} (h : DTab w) (hb : Below w.heap.size w w') : DTab w' := fun c hc => by
  have := h c hc
  rw [hb.cell (World.block_lt_of_cell? w _ this)]
  exact this
theorem dtab_of {W : World} (h : Lib.TabIs Tryd.prog W "loop.example/pub-namesbyclock/pub/oklogulid.dec" .u8 dvals) : DTab W := fun c hc => by
  rw [h.cell (show Tryd.prog.globalNamed "loop.example/pub-namesbyclock/pub/oklogulid.dec" = some 0 by kernel_rfl) c (by simp [dvals]; exact hc)]
  simp [dvals, hc]

theorem DTab.keptB {w w' : World} {b : Nat} (h : DTab w) (hb : Below b w w') (hb0 : 0 < b) : DTab w' := fun c hc => by
  rw [hb.cell hb0]
  exact h c hc
theorem DTab.lt {w : World} (h : DTab w) : 0 < w.heap.size := World.block_lt_of_cell? w _ (h 0 (by decide))
/-- The value of sign i. -/
def dv (T : List UInt8) (i : Nat) : Nat := dec32 (B T i)
theorem dv_lt (T : List UInt8) (i : Nat) : dv T i < 256 := dec32_lt _
/-- One of the first n signs is no digit. -/
def anyBad (T : List UInt8) : Nat → Bool
  | 0 => false
  | n + 1 => anyBad T n || decide (dv T n = 255)
theorem anyBad_false {T : List UInt8} : ∀ {n : Nat}, anyBad T n = false → ∀ i, i < n → dv T i ≠ 255
  | n + 1, h, i, hi => by
    unfold anyBad at h
    rw [Bool.or_eq_false_iff] at h
    by_cases e : i = n
    · rw [e]; simpa using h.2
    · exact anyBad_false h.1 i (by omega)
theorem anyBad_true {T : List UInt8} : ∀ {n : Nat}, anyBad T n = true → ∃ i, i < n ∧ dv T i = 255
  | n + 1, h => by
    unfold anyBad at h
    rw [Bool.or_eq_true] at h
    rcases h with h | h
    · obtain ⟨i, hi, he⟩ := anyBad_true h
      exact ⟨i, by omega, he⟩
    · exact ⟨n, by omega, by simpa using h⟩
section
variable {a : Act} {w : World}
/-- The place of a sign's value. -/
theorem do_tab {o : Oper} {y : Operand} (ho : o.op = .indexAddr 52 (.global 0) y) {c : Nat} (hy : a.eval y = .int .u8 (c : Int)) (hc : c < 256) : (execOp a.eval o).run Tryd.prog w = .ok (.value (.pointer (some ⟨0, c, none⟩))) w := by
  unfold execOp
  simp only [ho, hy]
  go_simp
  intro hh
  omega
theorem do_load {o : Oper} {x : Operand} (ho : o.op = .load 5 x) {ad : Addr} (hx : a.eval x = .pointer (some ad)) {p : Int} (hc : w.cell? ad = some (.int .u8 p)) : (execOp a.eval o).run Tryd.prog w = .ok (.value (.int .u8 p)) w := by
  unfold execOp
  simp only [ho, hx]
  go_simp
theorem do_is255 {o : Oper} {x : Operand} {t u : TypeId} (ho : o.op = .binOp .eql t x (.const (.int .u8 255)) u) {n : Nat} (hx : a.eval x = .int .u8 (n : Int)) : (execOp a.eval o).run Tryd.prog w = .ok (.value (.bool (decide (n = 255)))) w := by
  have e : ((n : Int) == 255) = decide (n = 255) := by
    rw [Bool.eq_iff_iff, beq_iff_eq, decide_eq_true_iff]; omega
  have hc : a.eval (.const (.int .u8 255)) = .int .u8 255 := rfl
  unfold execOp
  simp only [ho, hx, hc]
  go_simp
end
/-- The operations that look at sign i, 1 to 25. -/
structure Grp8 (l : List Oper) (i : Nat) : Prop where
  g : (l[8 * i]?).map coreO = some (.move (.tmp (8 * i + 10)), some (8 * i + 11), some (1, true))
  m : (l[8 * i + 1]?).map coreO = some (.move (.tmp 0), some (8 * i + 12), some (8 * i, false))
  x : (l[8 * i + 2]?).map coreO = some (.indexAddr 22 (.tmp (8 * i + 12)) (.const (.int .i64 (i : Int))), some (8 * i + 13), some (8 * i, false))
  d : (l[8 * i + 3]?).map coreO = some (.load 5 (.tmp (8 * i + 13)), some (8 * i + 14), some (8 * i, false))
  y : (l[8 * i + 4]?).map coreO = some (.indexAddr 52 (.global 0) (.tmp (8 * i + 14)), some (8 * i + 15), some (8 * i, false))
  e : (l[8 * i + 5]?).map coreO = some (.load 5 (.tmp (8 * i + 15)), some (8 * i + 16), some (8 * i, false))
  q : (l[8 * i + 6]?).map coreO = some (.binOp .eql 5 (.tmp (8 * i + 16)) (.const (.int .u8 255)) 5, some (8 * i + 17), some (8 * i, false))
  p : (l[8 * i + 7]?).map coreO = some (.pick (.tmp (8 * i + 11)) (.const (.bool true)) (.tmp (8 * i + 17)), some (8 * i + 18), some (1, true))
  v : i < 25 → (l[8 * i + 8]?).map coreO = some (.move (.tmp (8 * i + 18)), some (8 * i + 19), some (1, true))
theorem chain_sign {Q : Exit → Act → World → Prop} {l : List Oper} {a : Act} {w : World} {L : List (Nat × Value)} {gv cap i : Nat} {T : List UInt8} (hi1 : 1 ≤ i) (hi : i < 26) (hG : Grp8 l i) (hL : ∀ x ∈ L, x.1 ≤ 12) (h1g : ∃ c g, (l[1]?).map coreO = some (c, some 12, g))
    (hk : Keeps 520 L a) (h0 : (0, .slice (some ⟨gv, 0, none⟩) 26 cap) ∈ L) (h12 : (12, .bool true) ∈ L) (hp : a.eval (.tmp (8 * i + 11)) = .bool (anyBad T i)) (hc : w.cell? ⟨gv, i, none⟩ = some (.int .u8 (B T i : Nat))) (hD : DTab w)
    (h : ∀ a', Keeps 520 L a' → a'.eval (.tmp (8 * i + 18)) = .bool (anyBad T (i + 1)) → wpList Tryd.prog l.toArray Q (l.drop (8 * i + 8)) a' w) : wpList Tryd.prog l.toArray Q (l.drop (8 * i + 1)) a w := by
  obtain ⟨hgg, hm, hx, hd, hy, he, hq, hpk, _⟩ := hG
  obtain ⟨c1, g1, h1g⟩ := h1g
  have far : ∀ d, 13 ≤ d → ∀ x ∈ L, d ≠ x.1 := fun d hd x hx => by have := hL x hx; omega
  have hsz := hk.1
  cases hb : anyBad T i with
  | false =>
    rw [hb] at hp
    have W : ∀ (a' : Act), a'.eval (.tmp (8 * i + 11)) = .bool false → ∀ o : Oper, o.guard = some (8 * i, false) → Region.wanted o (yielded l.toArray a'.tmps) = true := fun a' h' o ho => by
      rw [wanted_by ho (yield_bool hgg h')]; rfl
    refine drop_val hm (W a hp) (fun o ho => do_move ho (hk.at h0)) ?_
    refine drop_val hx (W _ (by rw [ev_ne (by omega)]; exact hp)) (fun o ho => still_index (S := fun _ => True) ho Tryd.underlying22 (by kernel_rfl) (ev_self (by omega)) i rfl hi w trivial) ?_
    rw [Nat.zero_add]
    refine drop_val hd (W _ (by rw [ev_ne (by omega), ev_ne (by omega)]; exact hp)) (fun o ho => do_load ho (ev_self (by rw [size_put]; omega)) hc) ?_
    refine drop_val hy (W _ (by rw [ev_ne (by omega), ev_ne (by omega), ev_ne (by omega)]; exact hp)) (fun o ho => do_tab ho (ev_self (by rw [size_put, size_put]; omega)) (B_lt T i)) ?_
    refine drop_val he (W _ (by rw [ev_ne (by omega), ev_ne (by omega), ev_ne (by omega), ev_ne (by omega)]; exact hp)) (fun o ho => do_load ho (ev_self (by rw [size_put, size_put, size_put]; omega)) (hD (B T i) (B_lt T i))) ?_
    refine drop_val hq (W _ (by rw [ev_ne (by omega), ev_ne (by omega), ev_ne (by omega), ev_ne (by omega), ev_ne (by omega)]; exact hp)) (fun o ho => do_is255 ho (ev_self (by rw [size_put, size_put, size_put, size_put]; omega))) ?_
    have K6 := (((((hk.put (d := 8 * i + 12) (.slice (some ⟨gv, 0, none⟩) 26 cap) (far _ (by omega))).put (d := 8 * i + 13) (.pointer (some ⟨gv, i, none⟩)) (far _ (by omega))).put (d := 8 * i + 14) (.int .u8 (B T i : Nat)) (far _ (by omega))).put (d := 8 * i + 15) (.pointer (some ⟨0, B T i, none⟩)) (far _ (by omega))).put (d := 8 * i + 16) (.int .u8 (dec32 (B T i) : Nat)) (far _ (by omega))).put (d := 8 * i + 17) (.bool (decide (dec32 (B T i) = 255))) (far _ (by omega))
    have E17 : Act.eval _ (.tmp (8 * i + 17)) = _ := ev_self (a := (((((a.put (some (8 * i + 12)) (.slice (some ⟨gv, 0, none⟩) 26 cap)).put (some (8 * i + 13)) (.pointer (some ⟨gv, i, none⟩))).put (some (8 * i + 14)) (.int .u8 (B T i : Nat))).put (some (8 * i + 15)) (.pointer (some ⟨0, B T i, none⟩))).put (some (8 * i + 16)) (.int .u8 (dec32 (B T i) : Nat)))) (d := 8 * i + 17) (v := .bool (decide (dec32 (B T i) = 255))) (by rw [size_put, size_put, size_put, size_put, size_put]; omega)
    have E11 : Act.eval ((((((a.put (some (8 * i + 12)) (.slice (some ⟨gv, 0, none⟩) 26 cap)).put (some (8 * i + 13)) (.pointer (some ⟨gv, i, none⟩))).put (some (8 * i + 14)) (.int .u8 (B T i : Nat))).put (some (8 * i + 15)) (.pointer (some ⟨0, B T i, none⟩))).put (some (8 * i + 16)) (.int .u8 (dec32 (B T i) : Nat))).put (some (8 * i + 17)) (.bool (decide (dec32 (B T i) = 255)))) (.tmp (8 * i + 11)) = .bool false := by
      rw [ev_ne (by omega), ev_ne (by omega), ev_ne (by omega), ev_ne (by omega), ev_ne (by omega), ev_ne (by omega)]; exact hp
    generalize ((((((a.put (some (8 * i + 12)) (.slice (some ⟨gv, 0, none⟩) 26 cap)).put (some (8 * i + 13)) (.pointer (some ⟨gv, i, none⟩))).put (some (8 * i + 14)) (.int .u8 (B T i : Nat))).put (some (8 * i + 15)) (.pointer (some ⟨0, B T i, none⟩))).put (some (8 * i + 16)) (.int .u8 (dec32 (B T i) : Nat))).put (some (8 * i + 17)) (.bool (decide (dec32 (B T i) = 255)))) = A at *
    refine drop_val hpk (fun o ho => by rw [wanted_by ho (yield_bool h1g (K6.at h12))]; rfl) (fun o ho => do_pick ho E11 E17) ?_
    refine h _ (K6.put _ (far _ (by omega))) ?_
    rw [ev_self (by rw [K6.1]; omega)]
    show Value.bool _ = .bool (anyBad T (i + 1))
    unfold anyBad
    rw [hb, Bool.false_or]
    rfl
  | true =>
    rw [hb] at hp
    have W : ∀ (a' : Act), a'.eval (.tmp (8 * i + 11)) = .bool true → ∀ o : Oper, o.guard = some (8 * i, false) → Region.wanted o (yielded l.toArray a'.tmps) = false := fun a' h' o ho => by
      rw [wanted_by ho (yield_bool hgg h')]; rfl
    refine drop_off hm (W a hp) ?_
    refine drop_off hx (W _ (by rw [ev_ne (by omega)]; exact hp)) ?_
    refine drop_off hd (W _ (by rw [ev_ne (by omega), ev_ne (by omega)]; exact hp)) ?_
    refine drop_off hy (W _ (by rw [ev_ne (by omega), ev_ne (by omega), ev_ne (by omega)]; exact hp)) ?_
    refine drop_off he (W _ (by rw [ev_ne (by omega), ev_ne (by omega), ev_ne (by omega), ev_ne (by omega)]; exact hp)) ?_
    refine drop_off hq (W _ (by rw [ev_ne (by omega), ev_ne (by omega), ev_ne (by omega), ev_ne (by omega), ev_ne (by omega)]; exact hp)) ?_
    have K6 := (((((hk.put (d := 8 * i + 12) undef (far _ (by omega))).put (d := 8 * i + 13) undef (far _ (by omega))).put (d := 8 * i + 14) undef (far _ (by omega))).put (d := 8 * i + 15) undef (far _ (by omega))).put (d := 8 * i + 16) undef (far _ (by omega))).put (d := 8 * i + 17) undef (far _ (by omega))
    have E11 : Act.eval ((((((a.put (some (8 * i + 12)) undef).put (some (8 * i + 13)) undef).put (some (8 * i + 14)) undef).put (some (8 * i + 15)) undef).put (some (8 * i + 16)) undef).put (some (8 * i + 17)) undef) (.tmp (8 * i + 11)) = .bool true := by
      rw [ev_ne (by omega), ev_ne (by omega), ev_ne (by omega), ev_ne (by omega), ev_ne (by omega), ev_ne (by omega)]; exact hp
    generalize ((((((a.put (some (8 * i + 12)) undef).put (some (8 * i + 13)) undef).put (some (8 * i + 14)) undef).put (some (8 * i + 15)) undef).put (some (8 * i + 16)) undef).put (some (8 * i + 17)) undef) = A at *
    refine drop_val hpk (fun o ho => by rw [wanted_by ho (yield_bool h1g (K6.at h12))]; rfl) (fun o ho => do_pick ho E11 rfl) ?_
    refine h _ (K6.put _ (far _ (by omega))) ?_
    rw [ev_self (by rw [K6.1]; omega)]
    show Value.bool true = .bool (anyBad T (i + 1))
    unfold anyBad
    rw [hb, Bool.true_or]
/-- The operations ahead of the second sign, and the last one. -/
structure Ends (l : List Oper) : Prop where
  len : l.length = 209
  a0 : (l[0]?).map coreO = some (.move (.tmp 1), some 11, none)
  a1 : (l[1]?).map coreO = some (.move (.tmp 11), some 12, none)
  m : (l[2]?).map coreO = some (.move (.tmp 0), some 13, some (1, true))
  x : (l[3]?).map coreO = some (.indexAddr 22 (.tmp 13) (.const (.int .i64 0)), some 14, some (1, true))
  d : (l[4]?).map coreO = some (.load 5 (.tmp 14), some 15, some (1, true))
  y : (l[5]?).map coreO = some (.indexAddr 52 (.global 0) (.tmp 15), some 16, some (1, true))
  e : (l[6]?).map coreO = some (.load 5 (.tmp 16), some 17, some (1, true))
  q : (l[7]?).map coreO = some (.binOp .eql 5 (.tmp 17) (.const (.int .u8 255)) 5, some 18, some (1, true))
  v : (l[8]?).map coreO = some (.move (.tmp 18), some 19, some (1, true))
  z : (l[208]?).map coreO = some (.pick (.tmp 12) (.tmp 218) (.const (.bool false)), some 219, none)
theorem chain_on {Q : Exit → Act → World → Prop} {l : List Oper} {a : Act} {w : World} {L : List (Nat × Value)} {gv cap : Nat} {T : List UInt8} (hE : Ends l) (hG : ∀ i, 1 ≤ i → i < 26 → Grp8 l i) (hL : ∀ x ∈ L, x.1 ≤ 10)
    (hk : Keeps 520 L a) (h0 : (0, .slice (some ⟨gv, 0, none⟩) 26 cap) ∈ L) (h1 : (1, .bool true) ∈ L) (hc : ∀ i, i < 26 → w.cell? ⟨gv, i, none⟩ = some (.int .u8 (B T i : Nat))) (hD : DTab w)
    (h : ∀ a', Keeps 520 L a' → a'.eval (.tmp 219) = .bool (anyBad T 26) → wpList Tryd.prog l.toArray Q [] a' w) : wpList Tryd.prog l.toArray Q l a w := by
  rw [← List.drop_zero (l := l)]
  refine drop_val hE.a0 (fun o ho => wanted_free ho) (fun o ho => do_move ho (hk.at h1)) ?_
  refine drop_val hE.a1 (fun o ho => wanted_free ho) (fun o ho => do_move ho (ev_self (by rw [hk.1]; decide))) ?_
  have far : ∀ d, 11 ≤ d → ∀ x ∈ L, d ≠ x.1 := fun d hd x hx => by have := hL x hx; omega
  have K2 : Keeps 520 ((12, .bool true) :: L) ((a.put (some 11) (.bool true)).put (some 12) (.bool true)) := by
    have k2 := (hk.put (d := 11) (.bool true) (far _ (by decide))).put (d := 12) (.bool true) (far _ (by decide))
    exact ⟨k2.1, k2.2.1, fun x hx => by
      rcases List.mem_cons.1 hx with rfl | hx
      · exact ev_self (by rw [size_put, hk.1]; decide)
      · exact k2.2.2 x hx⟩
  generalize (a.put (some 11) (.bool true)).put (some 12) (.bool true) = A at *
  have far' : ∀ d, 13 ≤ d → ∀ x ∈ (12, Value.bool true) :: L, d ≠ x.1 := fun d hd x hx => by
    rcases List.mem_cons.1 hx with rfl | hx
    · show d ≠ 12; omega
    · have := hL x hx; omega
  have h12 : ((12, Value.bool true) : Nat × Value) ∈ (12, Value.bool true) :: L := List.mem_cons_self ..
  have h0' : ((0, Value.slice (some ⟨gv, 0, none⟩) 26 cap) : Nat × Value) ∈ (12, Value.bool true) :: L := List.mem_cons_of_mem _ h0
  have W : ∀ (a' : Act), Keeps 520 ((12, .bool true) :: L) a' → ∀ o : Oper, o.guard = some (1, true) → Region.wanted o (yielded l.toArray a'.tmps) = true := fun a' k' o ho => by
    rw [wanted_by ho (yield_bool hE.a1 (k'.at h12))]; rfl
  have hsz := K2.1
  have hq := hE.q
  have k1 := K2.put (d := 13) (.slice (some ⟨gv, 0, none⟩) 26 cap) (far' _ (by decide))
  have k2 := k1.put (d := 14) (.pointer (some ⟨gv, 0, none⟩)) (far' _ (by decide))
  have k3 := k2.put (d := 15) (.int .u8 (B T 0 : Nat)) (far' _ (by decide))
  have k4 := k3.put (d := 16) (.pointer (some ⟨0, B T 0, none⟩)) (far' _ (by decide))
  have k5 := k4.put (d := 17) (.int .u8 (dec32 (B T 0) : Nat)) (far' _ (by decide))
  have k6 := k5.put (d := 18) (.bool (decide (dec32 (B T 0) = 255))) (far' _ (by decide))
  have k7 := k6.put (d := 19) (.bool (decide (dec32 (B T 0) = 255))) (far' _ (by decide))
  refine drop_val hE.m (W _ K2) (fun o ho => do_move ho (K2.at h0')) ?_
  refine drop_val hE.x (W _ k1) (fun o ho => still_index (S := fun _ => True) ho Tryd.underlying22 (by kernel_rfl) (ev_self (by omega)) 0 rfl (by decide) w trivial) ?_
  refine drop_val hE.d (W _ k2) (fun o ho => do_load ho (ev_self (by rw [size_put]; omega)) (hc 0 (by decide))) ?_
  refine drop_val hE.y (W _ k3) (fun o ho => do_tab ho (ev_self (by rw [size_put, size_put]; omega)) (B_lt T 0)) ?_
  refine drop_val hE.e (W _ k4) (fun o ho => do_load ho (ev_self (by rw [k3.1]; decide)) (hD (B T 0) (B_lt T 0))) ?_
  refine drop_val hq (W _ k5) (fun o ho => do_is255 ho (ev_self (by rw [k4.1]; decide))) ?_
  refine drop_val hE.v (W _ k6) (fun o ho => do_move ho (ev_self (by rw [k5.1]; decide))) ?_
  have e19 := ev_self (a := (((((((A.put (some 13) (.slice (some ⟨gv, 0, none⟩) 26 cap)).put (some 14) (.pointer (some ⟨gv, 0, none⟩))).put (some 15) (.int .u8 (B T 0 : Nat))).put (some 16) (.pointer (some ⟨0, B T 0, none⟩))).put (some 17) (.int .u8 (dec32 (B T 0) : Nat))).put (some 18) (.bool (decide (dec32 (B T 0) = 255)))))) (d := 19) (v := .bool (decide (dec32 (B T 0) = 255))) (by rw [k6.1]; decide)
  generalize ((((((((A.put (some 13) (.slice (some ⟨gv, 0, none⟩) 26 cap)).put (some 14) (.pointer (some ⟨gv, 0, none⟩))).put (some 15) (.int .u8 (B T 0 : Nat))).put (some 16) (.pointer (some ⟨0, B T 0, none⟩))).put (some 17) (.int .u8 (dec32 (B T 0) : Nat))).put (some 18) (.bool (decide (dec32 (B T 0) = 255)))))).put (some 19) (.bool (decide (dec32 (B T 0) = 255))) = A1 at *
  clear k1 k2 k3 k4 k5 k6 K2 hk hsz
  have e1 : A1.eval (.tmp (8 * 1 + 11)) = .bool (anyBad T 1) := by
    rw [show 8 * 1 + 11 = 19 from rfl, e19]
    unfold anyBad anyBad
    rw [Bool.false_or]
    rfl
  have hL' : ∀ x ∈ (12, Value.bool true) :: L, x.1 ≤ 12 := fun x hx => by
    rcases List.mem_cons.1 hx with rfl | hx
    · exact Nat.le_refl _
    · have := hL x hx; omega
  -- the signs from the second one on
  have main : ∀ (n i : Nat) (a1 : Act), i + n = 25 → 1 ≤ i → Keeps 520 ((12, .bool true) :: L) a1 → a1.eval (.tmp (8 * i + 11)) = .bool (anyBad T i) → wpList Tryd.prog l.toArray Q (l.drop (8 * i + 1)) a1 w := by
    intro n
    induction n with
    | zero =>
      intro i a1 hin hi1 ka hp
      obtain rfl : i = 25 := by omega
      refine chain_sign hi1 (by decide) (hG 25 hi1 (by decide)) hL' ⟨_, _, hE.a1⟩ ka h0' h12 hp (hc 25 (by decide)) hD fun a' ka' hp' => ?_
      refine drop_val hE.z (fun o ho => wanted_free ho) (fun o ho => do_pick ho (ka'.at h12) hp') ?_
      rw [List.drop_of_length_le (by rw [hE.len]; decide)]
      have k := ka'.put (d := 219) (.bool (anyBad T 26)) (far' _ (by decide))
      exact h _ ⟨k.1, k.2.1, fun x hx => k.2.2 x (List.mem_cons_of_mem _ hx)⟩ (ev_self (by rw [ka'.1]; decide))
    | succ n ih =>
      intro i a1 hin hi1 ka hp
      have g := hG i hi1 (by omega)
      refine chain_sign hi1 (by omega) g hL' ⟨_, _, hE.a1⟩ ka h0' h12 hp (hc i (by omega)) hD fun a' ka' hp' => ?_
      refine drop_val (g.v (by omega)) (W _ ka') (fun o ho => do_move ho hp') ?_
      exact ih (i + 1) _ (by omega) (by omega) (ka'.put _ (far' _ (by omega))) (ev_self (by rw [ka'.1]; omega))
  exact main 24 1 A1 rfl (Nat.le_refl _) k7 e1
theorem off_sign {Q : Exit → Act → World → Prop} {l : List Oper} {a : Act} {w : World} {L : List (Nat × Value)} {i : Nat} (hi1 : 1 ≤ i) (hi : i < 26) (hG : Grp8 l i) (hL : ∀ x ∈ L, x.1 ≤ 12) (h1g : ∃ c g, (l[1]?).map coreO = some (c, some 12, g))
    (hk : Keeps 520 L a) (h12 : (12, .bool false) ∈ L) (hp : a.eval (.tmp (8 * i + 11)) = undef)
    (h : ∀ a', Keeps 520 L a' → a'.eval (.tmp (8 * i + 18)) = undef → wpList Tryd.prog l.toArray Q (l.drop (8 * i + 8)) a' w) : wpList Tryd.prog l.toArray Q (l.drop (8 * i + 1)) a w := by
  obtain ⟨hgg, hm, hx, hd, hy, he, hq, hpk, _⟩ := hG
  obtain ⟨c1, g1, h1g⟩ := h1g
  have far : ∀ d, 13 ≤ d → ∀ x ∈ L, d ≠ x.1 := fun d hd x hx => by have := hL x hx; omega
  have W : ∀ (a' : Act), a'.eval (.tmp (8 * i + 11)) = undef → ∀ o : Oper, o.guard = some (8 * i, false) → Region.wanted o (yielded l.toArray a'.tmps) = false := fun a' h' o ho => wanted_not ho (yield_undef hgg h')
  refine drop_off hm (W a hp) ?_
  refine drop_off hx (W _ (by rw [ev_ne (by omega)]; exact hp)) ?_
  refine drop_off hd (W _ (by rw [ev_ne (by omega), ev_ne (by omega)]; exact hp)) ?_
  refine drop_off hy (W _ (by rw [ev_ne (by omega), ev_ne (by omega), ev_ne (by omega)]; exact hp)) ?_
  refine drop_off he (W _ (by rw [ev_ne (by omega), ev_ne (by omega), ev_ne (by omega), ev_ne (by omega)]; exact hp)) ?_
  refine drop_off hq (W _ (by rw [ev_ne (by omega), ev_ne (by omega), ev_ne (by omega), ev_ne (by omega), ev_ne (by omega)]; exact hp)) ?_
  have K6 := (((((hk.put (d := 8 * i + 12) undef (far _ (by omega))).put (d := 8 * i + 13) undef (far _ (by omega))).put (d := 8 * i + 14) undef (far _ (by omega))).put (d := 8 * i + 15) undef (far _ (by omega))).put (d := 8 * i + 16) undef (far _ (by omega))).put (d := 8 * i + 17) undef (far _ (by omega))
  generalize ((((((a.put (some (8 * i + 12)) undef).put (some (8 * i + 13)) undef).put (some (8 * i + 14)) undef).put (some (8 * i + 15)) undef).put (some (8 * i + 16)) undef).put (some (8 * i + 17)) undef) = A at *
  refine drop_off hpk (fun o ho => by rw [wanted_by ho (yield_bool h1g (K6.at h12))]; rfl) ?_
  exact h _ (K6.put _ (far _ (by omega))) (ev_self (by rw [K6.1]; omega))
theorem chain_off {Q : Exit → Act → World → Prop} {l : List Oper} {a : Act} {w : World} {L : List (Nat × Value)} (hE : Ends l) (hG : ∀ i, 1 ≤ i → i < 26 → Grp8 l i) (hL : ∀ x ∈ L, x.1 ≤ 10)
    (hk : Keeps 520 L a) (h1 : (1, .bool false) ∈ L)
    (h : ∀ a', Keeps 520 L a' → a'.eval (.tmp 219) = .bool false → wpList Tryd.prog l.toArray Q [] a' w) : wpList Tryd.prog l.toArray Q l a w := by
  rw [← List.drop_zero (l := l)]
  refine drop_val hE.a0 (fun o ho => wanted_free ho) (fun o ho => do_move ho (hk.at h1)) ?_
  refine drop_val hE.a1 (fun o ho => wanted_free ho) (fun o ho => do_move ho (ev_self (by rw [hk.1]; decide))) ?_
  have far : ∀ d, 11 ≤ d → ∀ x ∈ L, d ≠ x.1 := fun d hd x hx => by have := hL x hx; omega
  have K2 : Keeps 520 ((12, .bool false) :: L) ((a.put (some 11) (.bool false)).put (some 12) (.bool false)) := by
    have k2 := (hk.put (d := 11) (.bool false) (far _ (by decide))).put (d := 12) (.bool false) (far _ (by decide))
    exact ⟨k2.1, k2.2.1, fun x hx => by
      rcases List.mem_cons.1 hx with rfl | hx
      · exact ev_self (by rw [size_put, hk.1]; decide)
      · exact k2.2.2 x hx⟩
  generalize (a.put (some 11) (.bool false)).put (some 12) (.bool false) = A at *
  have far' : ∀ d, 13 ≤ d → ∀ x ∈ (12, Value.bool false) :: L, d ≠ x.1 := fun d hd x hx => by
    rcases List.mem_cons.1 hx with rfl | hx
    · show d ≠ 12; omega
    · have := hL x hx; omega
  have h12 : ((12, Value.bool false) : Nat × Value) ∈ (12, Value.bool false) :: L := List.mem_cons_self ..
  have W : ∀ (a' : Act), Keeps 520 ((12, .bool false) :: L) a' → ∀ o : Oper, o.guard = some (1, true) → Region.wanted o (yielded l.toArray a'.tmps) = false := fun a' k' o ho => by
    rw [wanted_by ho (yield_bool hE.a1 (k'.at h12))]; rfl
  have hq := hE.q
  have k1 := K2.put (d := 13) undef (far' _ (by decide))
  have k2 := k1.put (d := 14) undef (far' _ (by decide))
  have k3 := k2.put (d := 15) undef (far' _ (by decide))
  have k4 := k3.put (d := 16) undef (far' _ (by decide))
  have k5 := k4.put (d := 17) undef (far' _ (by decide))
  have k6 := k5.put (d := 18) undef (far' _ (by decide))
  have k7 := k6.put (d := 19) undef (far' _ (by decide))
  refine drop_off hE.m (W _ K2) ?_
  refine drop_off hE.x (W _ k1) ?_
  refine drop_off hE.d (W _ k2) ?_
  refine drop_off hE.y (W _ k3) ?_
  refine drop_off hE.e (W _ k4) ?_
  refine drop_off hq (W _ k5) ?_
  refine drop_off hE.v (W _ k6) ?_
  have e19 := ev_self (a := (((((((A.put (some 13) undef).put (some 14) undef).put (some 15) undef).put (some 16) undef).put (some 17) undef).put (some 18) undef))) (d := 19) (v := undef) (by rw [k6.1]; decide)
  generalize ((((((((A.put (some 13) undef).put (some 14) undef).put (some 15) undef).put (some 16) undef).put (some 17) undef).put (some 18) undef))).put (some 19) undef = A1 at *
  clear k1 k2 k3 k4 k5 k6 K2 hk
  have hL' : ∀ x ∈ (12, Value.bool false) :: L, x.1 ≤ 12 := fun x hx => by
    rcases List.mem_cons.1 hx with rfl | hx
    · exact Nat.le_refl _
    · have := hL x hx; omega
  have main : ∀ (n i : Nat) (a1 : Act), i + n = 25 → 1 ≤ i → Keeps 520 ((12, .bool false) :: L) a1 → a1.eval (.tmp (8 * i + 11)) = undef → wpList Tryd.prog l.toArray Q (l.drop (8 * i + 1)) a1 w := by
    intro n
    induction n with
    | zero =>
      intro i a1 hin hi1 ka hp
      obtain rfl : i = 25 := by omega
      refine off_sign hi1 (by decide) (hG 25 hi1 (by decide)) hL' ⟨_, _, hE.a1⟩ ka h12 hp fun a' ka' hp' => ?_
      refine drop_val hE.z (fun o ho => wanted_free ho) (fun o ho => do_pick (v := .bool false) ho (ka'.at h12) rfl) ?_
      rw [List.drop_of_length_le (by rw [hE.len]; decide)]
      have k := ka'.put (d := 219) (.bool false) (far' _ (by decide))
      exact h _ ⟨k.1, k.2.1, fun x hx => k.2.2 x (List.mem_cons_of_mem _ hx)⟩ (ev_self (by rw [ka'.1]; decide))
    | succ n ih =>
      intro i a1 hin hi1 ka hp
      have g := hG i hi1 (by omega)
      refine off_sign hi1 (by omega) g hL' ⟨_, _, hE.a1⟩ ka h12 hp fun a' ka' hp' => ?_
      refine drop_off (g.v (by omega)) (W _ ka') ?_
      exact ih (i + 1) _ (by omega) (by omega) (ka'.put _ (far' _ (by omega))) (ev_self (by rw [ka'.1]; omega))
  exact main 24 1 A1 rfl (Nat.le_refl _) k7 e19
end Go.Proofs.YtcojcohipmoopaaDoor
