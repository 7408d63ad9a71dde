/- The contract of ULID's parse. -/
import Derived.Test.YtcojcohipmoopaaDoorURegs
namespace Go.Proofs.YtcojcohipmoopaaDoor
open Go.RowKit
set_option linter.unusedVariables false
set_option linter.unusedSimpArgs false

/-- One operation of a list that yields a value. -/
theorem list_k {P : Program} {ops : Array Oper} {Q : Exit → Act → World → Prop} {o : Oper} {rest : List Oper} {a : Act} {w : World} {d n : Nat} {v : Value} {L : List (Nat × Value)} (h2 : o.dst = some d) (h3 : o.guard = none) (hk : Keeps n L a) (hd : d < n) (hf : ∀ x ∈ L, d ≠ x.1)
    (hy : (execOp a.eval o).run P w = .ok (.value v) w) (h : ∀ a', Keeps n ((d, v) :: L) a' → wpList P ops Q rest a' w) : wpList P ops Q (o :: rest) a w := by
  refine wp_val (wanted_free h3) hy ?_
  rw [h2]
  have K := hk.put (d := d) v hf
  exact h _ ⟨K.1, K.2.1, fun x hx => by
    rcases List.mem_cons.1 hx with rfl | hx
    · exact ev_self (by rw [hk.1]; exact hd)
    · exact K.2.2 x hx⟩
theorem Keeps.sub {n : Nat} {L L' : List (Nat × Value)} {a : Act} (h : Keeps n L a) (hs : ∀ x ∈ L', x ∈ L) : Keeps n L' a := ⟨h.1, h.2.1, fun x hx => h.2.2 x (hs x hx)⟩
theorem do_gt55 {a : Act} {w : World} {o : Oper} {x : Operand} {t u : TypeId} (ho : o.op = .binOp .gtr t x (.const (.int .u8 55)) u) {n : Nat} (hx : a.eval x = .int .u8 (n : Int)) : (execOp a.eval o).run Tryd.prog w = .ok (.value (.bool (decide (55 < n)))) w := by
  have e : decide ((55 : Int) < (n : Int)) = decide (55 < n) := by rw [decide_eq_decide]; omega
  have hc : a.eval (.const (.int .u8 55)) = .int .u8 55 := rfl
  unfold execOp
  simp only [ho, hx, hc]
  go_simp
theorem do_assign {P : Program} {a : Act} {w : World} {o : Oper} {x : Operand} {v : Value} (ho : o.op = .assign x) (hx : a.eval x = v) : (execOp a.eval o).run P w = .ok (.value v) w := by
  unfold execOp; simp only [ho, hx]; rfl
theorem do_iface {a : Act} {w : World} {o : Oper} {x : Operand} {s : ByteArray} (ho : o.op = .makeInterface 51 x) (hx : a.eval x = .string s) : (execOp a.eval o).run Tryd.prog w = .ok (.value (.iface 51 (.string s))) w := by
  unfold execOp; simp only [ho, hx]; go_simp
theorem ret_at {P : Program} {fn : Func} {w : World} {R : Ending → World → Prop} {a : Act} {t : Tmp} (h : fn.results = #[.tmp t]) (hd : a.defers = []) {v : Value} (hv : a.eval (.tmp t) = v) (hR : R (.returned v) w) : bodyPost P fn R .ret a w := by
  refine bodyPost_ret (v := v) ?_ hd hR
  subst hv
  simp only [results_tmp h]
  rfl

/-- The bytes that are laid. -/
def uvals (T : List UInt8) : List Nat := [dv T 0 * 2 ^ 5 % 256 ||| dv T 1, dv T 2 * 2 ^ 3 % 256 ||| dv T 3 / 2 ^ 2, dv T 3 * 2 ^ 6 % 256 ||| dv T 4 * 2 ^ 1 % 256 ||| dv T 5 / 2 ^ 4, dv T 5 * 2 ^ 4 % 256 ||| dv T 6 / 2 ^ 1, dv T 6 * 2 ^ 7 % 256 ||| dv T 7 * 2 ^ 2 % 256 ||| dv T 8 / 2 ^ 3, dv T 8 * 2 ^ 5 % 256 ||| dv T 9, dv T 10 * 2 ^ 3 % 256 ||| dv T 11 / 2 ^ 2, dv T 11 * 2 ^ 6 % 256 ||| dv T 12 * 2 ^ 1 % 256 ||| dv T 13 / 2 ^ 4, dv T 13 * 2 ^ 4 % 256 ||| dv T 14 / 2 ^ 1, dv T 14 * 2 ^ 7 % 256 ||| dv T 15 * 2 ^ 2 % 256 ||| dv T 16 / 2 ^ 3, dv T 16 * 2 ^ 5 % 256 ||| dv T 17, dv T 18 * 2 ^ 3 % 256 ||| dv T 19 / 2 ^ 2, dv T 19 * 2 ^ 6 % 256 ||| dv T 20 * 2 ^ 1 % 256 ||| dv T 21 / 2 ^ 4, dv T 21 * 2 ^ 4 % 256 ||| dv T 22 / 2 ^ 1, dv T 22 * 2 ^ 7 % 256 ||| dv T 23 * 2 ^ 2 % 256 ||| dv T 24 / 2 ^ 3, dv T 24 * 2 ^ 5 % 256 ||| dv T 25]
def uB (T : List UInt8) : List UInt8 := (uvals T).map UInt8.ofNat
theorem lay_bytes (l : List Nat) (h : ∀ n ∈ l, n < 256) : bvs (l.map UInt8.ofNat) = l.map fun n => Value.int .u8 ((n : Nat) : Int) := by
  unfold bvs
  rw [List.map_map]
  refine List.map_congr_left fun n hn => ?_
  have := h n hn
  show Value.int .u8 (((UInt8.ofNat n).toNat : Nat) : Int) = _
  rw [UInt8.toNat_ofNat', Nat.mod_eq_of_lt this]
theorem uvals_lt (T : List UInt8) : ∀ n ∈ uvals T, n < 256 := by
  intro n hn
  have hm : ∀ x, x % 256 < 256 := fun x => Nat.mod_lt _ (by decide)
  have hd : ∀ i k, dv T i / k < 256 := fun i k => Nat.lt_of_le_of_lt (Nat.div_le_self _ _) (dv_lt T i)
  simp only [uvals, List.mem_cons, List.not_mem_nil, or_false] at hn
  rcases hn with rfl | rfl | rfl | rfl | rfl | rfl | rfl | rfl | rfl | rfl | rfl | rfl | rfl | rfl | rfl | rfl
  all_goals first
    | exact or_lt (hm _) (dv_lt _ _)
    | exact or_lt (hm _) (hd _ _)
    | exact or_lt (or_lt (hm _) (hm _)) (hd _ _)
theorem uB_laid (T : List UInt8) : ((((((((((((((((bvs (List.replicate 16 0)).set 0 (.int .u8 ((dv T 0 * 2 ^ 5 % 256 ||| dv T 1 : Nat) : Int))).set 1 (.int .u8 ((dv T 2 * 2 ^ 3 % 256 ||| dv T 3 / 2 ^ 2 : Nat) : Int))).set 2 (.int .u8 ((dv T 3 * 2 ^ 6 % 256 ||| dv T 4 * 2 ^ 1 % 256 ||| dv T 5 / 2 ^ 4 : Nat) : Int))).set 3 (.int .u8 ((dv T 5 * 2 ^ 4 % 256 ||| dv T 6 / 2 ^ 1 : Nat) : Int))).set 4 (.int .u8 ((dv T 6 * 2 ^ 7 % 256 ||| dv T 7 * 2 ^ 2 % 256 ||| dv T 8 / 2 ^ 3 : Nat) : Int))).set 5 (.int .u8 ((dv T 8 * 2 ^ 5 % 256 ||| dv T 9 : Nat) : Int))).set 6 (.int .u8 ((dv T 10 * 2 ^ 3 % 256 ||| dv T 11 / 2 ^ 2 : Nat) : Int))).set 7 (.int .u8 ((dv T 11 * 2 ^ 6 % 256 ||| dv T 12 * 2 ^ 1 % 256 ||| dv T 13 / 2 ^ 4 : Nat) : Int))).set 8 (.int .u8 ((dv T 13 * 2 ^ 4 % 256 ||| dv T 14 / 2 ^ 1 : Nat) : Int))).set 9 (.int .u8 ((dv T 14 * 2 ^ 7 % 256 ||| dv T 15 * 2 ^ 2 % 256 ||| dv T 16 / 2 ^ 3 : Nat) : Int))).set 10 (.int .u8 ((dv T 16 * 2 ^ 5 % 256 ||| dv T 17 : Nat) : Int))).set 11 (.int .u8 ((dv T 18 * 2 ^ 3 % 256 ||| dv T 19 / 2 ^ 2 : Nat) : Int))).set 12 (.int .u8 ((dv T 19 * 2 ^ 6 % 256 ||| dv T 20 * 2 ^ 1 % 256 ||| dv T 21 / 2 ^ 4 : Nat) : Int))).set 13 (.int .u8 ((dv T 21 * 2 ^ 4 % 256 ||| dv T 22 / 2 ^ 1 : Nat) : Int))).set 14 (.int .u8 ((dv T 22 * 2 ^ 7 % 256 ||| dv T 23 * 2 ^ 2 % 256 ||| dv T 24 / 2 ^ 3 : Nat) : Int))).set 15 (.int .u8 ((dv T 24 * 2 ^ 5 % 256 ||| dv T 25 : Nat) : Int)) = bvs (uB T) := by
  unfold uB
  rw [lay_bytes _ (uvals_lt T)]
  rfl
/-- What parse refuses. -/
def refuses (T : List UInt8) (strict : Bool) : Bool := (strict && anyBad T 26) || decide (55 < B T 0)
def Parsed (T : List UInt8) (strict : Bool) (g : Nat) (t : TypeId) (w : World) (e : Ending) (w' : World) : Prop :=
  (refuses T strict = true → ∃ u x, e = .returned (.iface u x)) ∧ (refuses T strict = false → e = .returned .nilIface) ∧ ∃ ys : List UInt8, ys.length = 16 ∧ Blk w' g (bvs ys) t ∧ (refuses T strict = false → ys = uB T) ∧ w.grownBy w' (some g)

set_option maxHeartbeats 2000000 in
set_option maxRecDepth 100000 in
theorem parse_tail (g gv cap : Nat) (t : TypeId) (strict : Bool) (T : List UInt8) (w : World) (hg : Blk w g (bvs (List.replicate 16 0)) t) (hc : ∀ i, i < 26 → w.cell? ⟨gv, i, none⟩ = some (.int .u8 (B T i : Nat))) (hne : gv ≠ g) (hg0 : g ≠ 0) (hD : DTab w) :
    Calls Tryd.prog 18 #[.slice (some ⟨gv, 0, none⟩) 26 cap, .bool strict, .pointer (some ⟨g, 0, none⟩)] w fun e w' => Parsed T strict g t w e w' := by
  have HC := Lib.hid hc
  clear hc
  go_enter Tryd.func18, Tryd.ntmps18
  go_upto_region 3 with fail
  rename_i KA hKA KB hKB
  have HB : ∀ b : Bool, (strict && anyBad T 26) = b → ∀ (Q : Exit → Act → World → Prop) (l : List Oper) (a : Act), Ends l → (∀ i, 1 ≤ i → i < 26 → Grp8 l i) → Keeps 520 [(0, .slice (some ⟨gv, 0, none⟩) 26 cap), (1, .bool strict), (2, .pointer (some ⟨g, 0, none⟩)), (6, .nilIface)] a →
      (∀ a', Keeps 520 [(0, .slice (some ⟨gv, 0, none⟩) 26 cap), (2, .pointer (some ⟨g, 0, none⟩)), (6, .nilIface)] a' → a'.eval (.tmp 219) = .bool b → Q .normal a' w) → wpList Tryd.prog l.toArray Q l a w := by
    intro b hb Q l a hE hG hk h
    have hsub : ∀ a', Keeps 520 [(0, .slice (some ⟨gv, 0, none⟩) 26 cap), (1, .bool strict), (2, .pointer (some ⟨g, 0, none⟩)), (6, .nilIface)] a' → Keeps 520 [(0, .slice (some ⟨gv, 0, none⟩) 26 cap), (2, .pointer (some ⟨g, 0, none⟩)), (6, .nilIface)] a' := fun a' k => k.sub (by intro x hx; simp at hx ⊢; rcases hx with rfl | rfl | rfl <;> simp)
    cases strict with
    | true => exact chain_on hE hG (by intro x hx; simp at hx; rcases hx with rfl | rfl | rfl | rfl <;> exact Nat.le_of_ble_eq_true rfl) hk (List.mem_cons_self ..) (by simp) HC.out hD fun a' k e => h a' (hsub a' k) (by rw [e, ← hb]; rfl)
    | false => exact chain_off hE hG (by intro x hx; simp at hx; rcases hx with rfl | rfl | rfl | rfl <;> exact Nat.le_of_ble_eq_true rfl) hk (by simp) fun a' k e => h a' (hsub a' k) (by rw [e, ← hb]; rfl)
  obtain ⟨b3, hb3⟩ : ∃ b, (strict && anyBad T 26) = b := ⟨_, rfl⟩
  refine wp_region_lit (HB b3 hb3 _ _ _ ?ends ?grps ?keeps ?_)
  case ends => constructor <;> kernel_rfl
  case grps =>
    intro i h1 h26
    have : i = 1 ∨ i = 2 ∨ i = 3 ∨ i = 4 ∨ i = 5 ∨ i = 6 ∨ i = 7 ∨ i = 8 ∨ i = 9 ∨ i = 10 ∨ i = 11 ∨ i = 12 ∨ i = 13 ∨ i = 14 ∨ i = 15 ∨ i = 16 ∨ i = 17 ∨ i = 18 ∨ i = 19 ∨ i = 20 ∨ i = 21 ∨ i = 22 ∨ i = 23 ∨ i = 24 ∨ i = 25 := by omega
    rcases this with rfl | rfl | rfl | rfl | rfl | rfl | rfl | rfl | rfl | rfl | rfl | rfl | rfl | rfl | rfl | rfl | rfl | rfl | rfl | rfl | rfl | rfl | rfl | rfl | rfl
    all_goals (constructor <;> first | kernel_rfl | (intro h; first | omega | kernel_rfl))
  case keeps => exact ⟨by kernel_rfl, rfl, fun x hx => by simp at hx; rcases hx with rfl | rfl | rfl | rfl <;> rfl⟩
  intro a ka e219
  refine hKB a w ?_
  clear HB hKB
  refine wp_cond e219 ?_
  cases b3 with
  | true =>
    refine wp_seq_k fun K9 hK9 => ?_
    refine wp_region_lit ?_
    refine list_k rfl rfl ka (by decide) (by repeat' (first | exact far_nil _ | refine far_cons (by decide) ?_)) (do_iface rfl rfl) fun a9 ka9 => ?_
    refine wp_val (wanted_free rfl) (do_assign rfl (ka9.at (List.mem_cons_self ..))) ?_
    refine hK9 _ _ (wp_ret ?_)
    refine ret_at (t := 6) rfl ka9.2.1 (ev_self (by rw [ka9.1]; decide)) ⟨fun _ => ⟨_, _, rfl⟩, fun h => (by rw [refuses, hb3, Bool.true_or] at h; cases h), List.replicate 16 0, rfl, hg, fun h => (by rw [refuses, hb3, Bool.true_or] at h; cases h), World.grownBy.refl _ _⟩
  | false =>
    refine wp_skip (hKA _ _ ?_)
    clear hKA e219
    refine wp_seq_k fun K5 hK5 => ?_
    refine wp_seq_k fun K6 hK6 => ?_
    refine wp_region_lit ?_
    refine list_k rfl rfl ka (by decide) (by repeat' (first | exact far_nil _ | refine far_cons (by decide) ?_)) (do_move rfl (ka.at (List.mem_cons_self ..))) fun a1 k1 => ?_
    refine list_k rfl rfl k1 (by decide) (by repeat' (first | exact far_nil _ | refine far_cons (by decide) ?_)) (still_index (S := fun _ => True) (b := gv) (off := 0) (n := 26) (c := cap) rfl Tryd.underlying22 (by kernel_rfl) (k1.at (List.mem_cons_self ..)) 0 rfl (by decide) w trivial) fun a2 k2 => ?_
    refine list_k rfl rfl k2 (by decide) (by repeat' (first | exact far_nil _ | refine far_cons (by decide) ?_)) (do_load rfl (k2.at (List.mem_cons_self ..)) (by rw [Nat.zero_add]; exact HC.out 0 (by decide))) fun a3 k3 => ?_
    refine list_k rfl rfl k3 (by decide) (by repeat' (first | exact far_nil _ | refine far_cons (by decide) ?_)) (do_gt55 rfl (k3.at (List.mem_cons_self ..))) fun a4 k4 => ?_
    have e224 := k4.at (List.mem_cons_self ..)
    have k5 := k4.sub (L' := [(0, .slice (some ⟨gv, 0, none⟩) 26 cap), (2, .pointer (some ⟨g, 0, none⟩)), (6, .nilIface)]) (by intro x hx; simp at hx ⊢; rcases hx with rfl | rfl | rfl <;> simp)
    clear k1 k2 k3 k4 ka
    have ka := k5
    clear k5
    refine hK6 _ _ ?_
    clear hK6
    refine wp_cond e224 ?_
    obtain ⟨b5, hb5⟩ : ∃ b, decide (55 < B T 0) = b := ⟨_, rfl⟩
    rw [hb5]
    cases b5 with
    | true =>
      refine wp_seq_k fun K9 hK9 => ?_
      refine wp_region_lit ?_
      refine list_k rfl rfl ka (by decide) (by repeat' (first | exact far_nil _ | refine far_cons (by decide) ?_)) (do_iface rfl rfl) fun a9 ka9 => ?_
      refine wp_val (wanted_free rfl) (do_assign rfl (ka9.at (List.mem_cons_self ..))) ?_
      refine hK9 _ _ (wp_ret ?_)
      refine ret_at (t := 6) rfl ka9.2.1 (ev_self (by rw [ka9.1]; decide)) ⟨fun _ => ⟨_, _, rfl⟩, fun h => (by rw [refuses, hb3, hb5] at h; cases h), List.replicate 16 0, rfl, hg, fun h => (by rw [refuses, hb3, hb5] at h; cases h), World.grownBy.refl _ _⟩
    | false =>
      refine wp_skip (hK5 _ _ ?_)
      clear hK5 e224
      have HCW := HC
      have HDW : Hid (DTab w) := Lib.hid hD
      have hw : Below g w w := Below.refl g w
      have hG : w.grownBy w (some g) := World.grownBy.refl _ _
      clear HC hD
      refine wp_seq_k fun K0 hK0 => ?_
      refine regA_ok (b := 226) (j := 0) (p := 0) (s := 5) (q := 1) (T := T) (cap := cap) (by constructor <;> first | kernel_rfl | exact ⟨_, rfl⟩) (by decide) (by decide) (by decide) (by decide) (by decide) (by decide) (by kernel_rfl) (by kernel_rfl) (by intro c a d v w h; cases d <;> exact h) ka HCW.out HDW.out hg (by simp [bvs_length]) hw (Nat.le_refl g) ?_
      clear ka
      intro a w2 ka hg2 gr2 hw2
      refine hK0 _ _ ?_
      have HCW2 : Hid (∀ i, i < 26 → w2.cell? ⟨gv, i, none⟩ = some (.int .u8 (B T i : Nat))) := Lib.hid (fun i hi => gr2.cell (HCW.out i hi) (by intro e; exact hne (Option.some.inj e)))
      have HDW2 : Hid (DTab w2) := Lib.hid (fun c hc => gr2.cell (HDW.out c hc) (by intro e; exact hg0 (Option.some.inj e).symm))
      have hG2 := grown_trans hG gr2
      clear HCW HDW hg hw hG gr2 hK0
      have HCW := HCW2
      have HDW := HDW2
      have hg := hg2
      have hw := hw2
      have hG := hG2
      clear HCW2 HDW2 hg2 hw2 hG2
      refine wp_seq_k fun K1 hK1 => ?_
      refine regC_ok (b := 241) (j := 1) (p := 2) (s := 3) (q := 3) (r := 2) (T := T) (cap := cap) (by constructor <;> first | kernel_rfl | exact ⟨_, rfl⟩) (by decide) (by decide) (by decide) (by decide) (by decide) (by decide) (by decide) (by kernel_rfl) (by kernel_rfl) (by intro c a d v w h; cases d <;> exact h) ka HCW.out HDW.out hg (by simp [bvs_length]) hw (Nat.le_refl g) ?_
      clear ka
      intro a w2 ka hg2 gr2 hw2
      refine hK1 _ _ ?_
      have HCW2 : Hid (∀ i, i < 26 → w2.cell? ⟨gv, i, none⟩ = some (.int .u8 (B T i : Nat))) := Lib.hid (fun i hi => gr2.cell (HCW.out i hi) (by intro e; exact hne (Option.some.inj e)))
      have HDW2 : Hid (DTab w2) := Lib.hid (fun c hc => gr2.cell (HDW.out c hc) (by intro e; exact hg0 (Option.some.inj e).symm))
      have hG2 := grown_trans hG gr2
      clear HCW HDW hg hw hG gr2 hK1
      have HCW := HCW2
      have HDW := HDW2
      have hg := hg2
      have hw := hw2
      have hG := hG2
      clear HCW2 HDW2 hg2 hw2 hG2
      refine wp_seq_k fun K2 hK2 => ?_
      refine regB_ok (b := 257) (j := 2) (p := 3) (s := 6) (q := 4) (s2 := 1) (r := 5) (u := 4) (T := T) (cap := cap) (by constructor <;> first | kernel_rfl | exact ⟨_, rfl⟩) (by decide) (by decide) (by decide) (by decide) (by decide) (by decide) (by decide) (by decide) (by decide) (by kernel_rfl) (by kernel_rfl) (by intro c a d v w h; cases d <;> exact h) ka HCW.out HDW.out hg (by simp [bvs_length]) hw (Nat.le_refl g) ?_
      clear ka
      intro a w2 ka hg2 gr2 hw2
      refine hK2 _ _ ?_
      have HCW2 : Hid (∀ i, i < 26 → w2.cell? ⟨gv, i, none⟩ = some (.int .u8 (B T i : Nat))) := Lib.hid (fun i hi => gr2.cell (HCW.out i hi) (by intro e; exact hne (Option.some.inj e)))
      have HDW2 : Hid (DTab w2) := Lib.hid (fun c hc => gr2.cell (HDW.out c hc) (by intro e; exact hg0 (Option.some.inj e).symm))
      have hG2 := grown_trans hG gr2
      clear HCW HDW hg hw hG gr2 hK2
      have HCW := HCW2
      have HDW := HDW2
      have hg := hg2
      have hw := hw2
      have hG := hG2
      clear HCW2 HDW2 hg2 hw2 hG2
      refine wp_seq_k fun K3 hK3 => ?_
      refine regC_ok (b := 280) (j := 3) (p := 5) (s := 4) (q := 6) (r := 1) (T := T) (cap := cap) (by constructor <;> first | kernel_rfl | exact ⟨_, rfl⟩) (by decide) (by decide) (by decide) (by decide) (by decide) (by decide) (by decide) (by kernel_rfl) (by kernel_rfl) (by intro c a d v w h; cases d <;> exact h) ka HCW.out HDW.out hg (by simp [bvs_length]) hw (Nat.le_refl g) ?_
      clear ka
      intro a w2 ka hg2 gr2 hw2
      refine hK3 _ _ ?_
      have HCW2 : Hid (∀ i, i < 26 → w2.cell? ⟨gv, i, none⟩ = some (.int .u8 (B T i : Nat))) := Lib.hid (fun i hi => gr2.cell (HCW.out i hi) (by intro e; exact hne (Option.some.inj e)))
      have HDW2 : Hid (DTab w2) := Lib.hid (fun c hc => gr2.cell (HDW.out c hc) (by intro e; exact hg0 (Option.some.inj e).symm))
      have hG2 := grown_trans hG gr2
      clear HCW HDW hg hw hG gr2 hK3
      have HCW := HCW2
      have HDW := HDW2
      have hg := hg2
      have hw := hw2
      have hG := hG2
      clear HCW2 HDW2 hg2 hw2 hG2
      refine wp_seq_k fun K4 hK4 => ?_
      refine regB_ok (b := 296) (j := 4) (p := 6) (s := 7) (q := 7) (s2 := 2) (r := 8) (u := 3) (T := T) (cap := cap) (by constructor <;> first | kernel_rfl | exact ⟨_, rfl⟩) (by decide) (by decide) (by decide) (by decide) (by decide) (by decide) (by decide) (by decide) (by decide) (by kernel_rfl) (by kernel_rfl) (by intro c a d v w h; cases d <;> exact h) ka HCW.out HDW.out hg (by simp [bvs_length]) hw (Nat.le_refl g) ?_
      clear ka
      intro a w2 ka hg2 gr2 hw2
      refine hK4 _ _ ?_
      have HCW2 : Hid (∀ i, i < 26 → w2.cell? ⟨gv, i, none⟩ = some (.int .u8 (B T i : Nat))) := Lib.hid (fun i hi => gr2.cell (HCW.out i hi) (by intro e; exact hne (Option.some.inj e)))
      have HDW2 : Hid (DTab w2) := Lib.hid (fun c hc => gr2.cell (HDW.out c hc) (by intro e; exact hg0 (Option.some.inj e).symm))
      have hG2 := grown_trans hG gr2
      clear HCW HDW hg hw hG gr2 hK4
      have HCW := HCW2
      have HDW := HDW2
      have hg := hg2
      have hw := hw2
      have hG := hG2
      clear HCW2 HDW2 hg2 hw2 hG2
      refine wp_seq_k fun K5 hK5 => ?_
      refine regA_ok (b := 319) (j := 5) (p := 8) (s := 5) (q := 9) (T := T) (cap := cap) (by constructor <;> first | kernel_rfl | exact ⟨_, rfl⟩) (by decide) (by decide) (by decide) (by decide) (by decide) (by decide) (by kernel_rfl) (by kernel_rfl) (by intro c a d v w h; cases d <;> exact h) ka HCW.out HDW.out hg (by simp [bvs_length]) hw (Nat.le_refl g) ?_
      clear ka
      intro a w2 ka hg2 gr2 hw2
      refine hK5 _ _ ?_
      have HCW2 : Hid (∀ i, i < 26 → w2.cell? ⟨gv, i, none⟩ = some (.int .u8 (B T i : Nat))) := Lib.hid (fun i hi => gr2.cell (HCW.out i hi) (by intro e; exact hne (Option.some.inj e)))
      have HDW2 : Hid (DTab w2) := Lib.hid (fun c hc => gr2.cell (HDW.out c hc) (by intro e; exact hg0 (Option.some.inj e).symm))
      have hG2 := grown_trans hG gr2
      clear HCW HDW hg hw hG gr2 hK5
      have HCW := HCW2
      have HDW := HDW2
      have hg := hg2
      have hw := hw2
      have hG := hG2
      clear HCW2 HDW2 hg2 hw2 hG2
      refine wp_seq_k fun K6 hK6 => ?_
      refine regC_ok (b := 334) (j := 6) (p := 10) (s := 3) (q := 11) (r := 2) (T := T) (cap := cap) (by constructor <;> first | kernel_rfl | exact ⟨_, rfl⟩) (by decide) (by decide) (by decide) (by decide) (by decide) (by decide) (by decide) (by kernel_rfl) (by kernel_rfl) (by intro c a d v w h; cases d <;> exact h) ka HCW.out HDW.out hg (by simp [bvs_length]) hw (Nat.le_refl g) ?_
      clear ka
      intro a w2 ka hg2 gr2 hw2
      refine hK6 _ _ ?_
      have HCW2 : Hid (∀ i, i < 26 → w2.cell? ⟨gv, i, none⟩ = some (.int .u8 (B T i : Nat))) := Lib.hid (fun i hi => gr2.cell (HCW.out i hi) (by intro e; exact hne (Option.some.inj e)))
      have HDW2 : Hid (DTab w2) := Lib.hid (fun c hc => gr2.cell (HDW.out c hc) (by intro e; exact hg0 (Option.some.inj e).symm))
      have hG2 := grown_trans hG gr2
      clear HCW HDW hg hw hG gr2 hK6
      have HCW := HCW2
      have HDW := HDW2
      have hg := hg2
      have hw := hw2
      have hG := hG2
      clear HCW2 HDW2 hg2 hw2 hG2
      refine wp_seq_k fun K7 hK7 => ?_
      refine regB_ok (b := 350) (j := 7) (p := 11) (s := 6) (q := 12) (s2 := 1) (r := 13) (u := 4) (T := T) (cap := cap) (by constructor <;> first | kernel_rfl | exact ⟨_, rfl⟩) (by decide) (by decide) (by decide) (by decide) (by decide) (by decide) (by decide) (by decide) (by decide) (by kernel_rfl) (by kernel_rfl) (by intro c a d v w h; cases d <;> exact h) ka HCW.out HDW.out hg (by simp [bvs_length]) hw (Nat.le_refl g) ?_
      clear ka
      intro a w2 ka hg2 gr2 hw2
      refine hK7 _ _ ?_
      have HCW2 : Hid (∀ i, i < 26 → w2.cell? ⟨gv, i, none⟩ = some (.int .u8 (B T i : Nat))) := Lib.hid (fun i hi => gr2.cell (HCW.out i hi) (by intro e; exact hne (Option.some.inj e)))
      have HDW2 : Hid (DTab w2) := Lib.hid (fun c hc => gr2.cell (HDW.out c hc) (by intro e; exact hg0 (Option.some.inj e).symm))
      have hG2 := grown_trans hG gr2
      clear HCW HDW hg hw hG gr2 hK7
      have HCW := HCW2
      have HDW := HDW2
      have hg := hg2
      have hw := hw2
      have hG := hG2
      clear HCW2 HDW2 hg2 hw2 hG2
      refine wp_seq_k fun K8 hK8 => ?_
      refine regC_ok (b := 373) (j := 8) (p := 13) (s := 4) (q := 14) (r := 1) (T := T) (cap := cap) (by constructor <;> first | kernel_rfl | exact ⟨_, rfl⟩) (by decide) (by decide) (by decide) (by decide) (by decide) (by decide) (by decide) (by kernel_rfl) (by kernel_rfl) (by intro c a d v w h; cases d <;> exact h) ka HCW.out HDW.out hg (by simp [bvs_length]) hw (Nat.le_refl g) ?_
      clear ka
      intro a w2 ka hg2 gr2 hw2
      refine hK8 _ _ ?_
      have HCW2 : Hid (∀ i, i < 26 → w2.cell? ⟨gv, i, none⟩ = some (.int .u8 (B T i : Nat))) := Lib.hid (fun i hi => gr2.cell (HCW.out i hi) (by intro e; exact hne (Option.some.inj e)))
      have HDW2 : Hid (DTab w2) := Lib.hid (fun c hc => gr2.cell (HDW.out c hc) (by intro e; exact hg0 (Option.some.inj e).symm))
      have hG2 := grown_trans hG gr2
      clear HCW HDW hg hw hG gr2 hK8
      have HCW := HCW2
      have HDW := HDW2
      have hg := hg2
      have hw := hw2
      have hG := hG2
      clear HCW2 HDW2 hg2 hw2 hG2
      refine wp_seq_k fun K9 hK9 => ?_
      refine regB_ok (b := 389) (j := 9) (p := 14) (s := 7) (q := 15) (s2 := 2) (r := 16) (u := 3) (T := T) (cap := cap) (by constructor <;> first | kernel_rfl | exact ⟨_, rfl⟩) (by decide) (by decide) (by decide) (by decide) (by decide) (by decide) (by decide) (by decide) (by decide) (by kernel_rfl) (by kernel_rfl) (by intro c a d v w h; cases d <;> exact h) ka HCW.out HDW.out hg (by simp [bvs_length]) hw (Nat.le_refl g) ?_
      clear ka
      intro a w2 ka hg2 gr2 hw2
      refine hK9 _ _ ?_
      have HCW2 : Hid (∀ i, i < 26 → w2.cell? ⟨gv, i, none⟩ = some (.int .u8 (B T i : Nat))) := Lib.hid (fun i hi => gr2.cell (HCW.out i hi) (by intro e; exact hne (Option.some.inj e)))
      have HDW2 : Hid (DTab w2) := Lib.hid (fun c hc => gr2.cell (HDW.out c hc) (by intro e; exact hg0 (Option.some.inj e).symm))
      have hG2 := grown_trans hG gr2
      clear HCW HDW hg hw hG gr2 hK9
      have HCW := HCW2
      have HDW := HDW2
      have hg := hg2
      have hw := hw2
      have hG := hG2
      clear HCW2 HDW2 hg2 hw2 hG2
      refine wp_seq_k fun K10 hK10 => ?_
      refine regA_ok (b := 412) (j := 10) (p := 16) (s := 5) (q := 17) (T := T) (cap := cap) (by constructor <;> first | kernel_rfl | exact ⟨_, rfl⟩) (by decide) (by decide) (by decide) (by decide) (by decide) (by decide) (by kernel_rfl) (by kernel_rfl) (by intro c a d v w h; cases d <;> exact h) ka HCW.out HDW.out hg (by simp [bvs_length]) hw (Nat.le_refl g) ?_
      clear ka
      intro a w2 ka hg2 gr2 hw2
      refine hK10 _ _ ?_
      have HCW2 : Hid (∀ i, i < 26 → w2.cell? ⟨gv, i, none⟩ = some (.int .u8 (B T i : Nat))) := Lib.hid (fun i hi => gr2.cell (HCW.out i hi) (by intro e; exact hne (Option.some.inj e)))
      have HDW2 : Hid (DTab w2) := Lib.hid (fun c hc => gr2.cell (HDW.out c hc) (by intro e; exact hg0 (Option.some.inj e).symm))
      have hG2 := grown_trans hG gr2
      clear HCW HDW hg hw hG gr2 hK10
      have HCW := HCW2
      have HDW := HDW2
      have hg := hg2
      have hw := hw2
      have hG := hG2
      clear HCW2 HDW2 hg2 hw2 hG2
      refine wp_seq_k fun K11 hK11 => ?_
      refine regC_ok (b := 427) (j := 11) (p := 18) (s := 3) (q := 19) (r := 2) (T := T) (cap := cap) (by constructor <;> first | kernel_rfl | exact ⟨_, rfl⟩) (by decide) (by decide) (by decide) (by decide) (by decide) (by decide) (by decide) (by kernel_rfl) (by kernel_rfl) (by intro c a d v w h; cases d <;> exact h) ka HCW.out HDW.out hg (by simp [bvs_length]) hw (Nat.le_refl g) ?_
      clear ka
      intro a w2 ka hg2 gr2 hw2
      refine hK11 _ _ ?_
      have HCW2 : Hid (∀ i, i < 26 → w2.cell? ⟨gv, i, none⟩ = some (.int .u8 (B T i : Nat))) := Lib.hid (fun i hi => gr2.cell (HCW.out i hi) (by intro e; exact hne (Option.some.inj e)))
      have HDW2 : Hid (DTab w2) := Lib.hid (fun c hc => gr2.cell (HDW.out c hc) (by intro e; exact hg0 (Option.some.inj e).symm))
      have hG2 := grown_trans hG gr2
      clear HCW HDW hg hw hG gr2 hK11
      have HCW := HCW2
      have HDW := HDW2
      have hg := hg2
      have hw := hw2
      have hG := hG2
      clear HCW2 HDW2 hg2 hw2 hG2
      refine wp_seq_k fun K12 hK12 => ?_
      refine regB_ok (b := 443) (j := 12) (p := 19) (s := 6) (q := 20) (s2 := 1) (r := 21) (u := 4) (T := T) (cap := cap) (by constructor <;> first | kernel_rfl | exact ⟨_, rfl⟩) (by decide) (by decide) (by decide) (by decide) (by decide) (by decide) (by decide) (by decide) (by decide) (by kernel_rfl) (by kernel_rfl) (by intro c a d v w h; cases d <;> exact h) ka HCW.out HDW.out hg (by simp [bvs_length]) hw (Nat.le_refl g) ?_
      clear ka
      intro a w2 ka hg2 gr2 hw2
      refine hK12 _ _ ?_
      have HCW2 : Hid (∀ i, i < 26 → w2.cell? ⟨gv, i, none⟩ = some (.int .u8 (B T i : Nat))) := Lib.hid (fun i hi => gr2.cell (HCW.out i hi) (by intro e; exact hne (Option.some.inj e)))
      have HDW2 : Hid (DTab w2) := Lib.hid (fun c hc => gr2.cell (HDW.out c hc) (by intro e; exact hg0 (Option.some.inj e).symm))
      have hG2 := grown_trans hG gr2
      clear HCW HDW hg hw hG gr2 hK12
      have HCW := HCW2
      have HDW := HDW2
      have hg := hg2
      have hw := hw2
      have hG := hG2
      clear HCW2 HDW2 hg2 hw2 hG2
      refine wp_seq_k fun K13 hK13 => ?_
      refine regC_ok (b := 466) (j := 13) (p := 21) (s := 4) (q := 22) (r := 1) (T := T) (cap := cap) (by constructor <;> first | kernel_rfl | exact ⟨_, rfl⟩) (by decide) (by decide) (by decide) (by decide) (by decide) (by decide) (by decide) (by kernel_rfl) (by kernel_rfl) (by intro c a d v w h; cases d <;> exact h) ka HCW.out HDW.out hg (by simp [bvs_length]) hw (Nat.le_refl g) ?_
      clear ka
      intro a w2 ka hg2 gr2 hw2
      refine hK13 _ _ ?_
      have HCW2 : Hid (∀ i, i < 26 → w2.cell? ⟨gv, i, none⟩ = some (.int .u8 (B T i : Nat))) := Lib.hid (fun i hi => gr2.cell (HCW.out i hi) (by intro e; exact hne (Option.some.inj e)))
      have HDW2 : Hid (DTab w2) := Lib.hid (fun c hc => gr2.cell (HDW.out c hc) (by intro e; exact hg0 (Option.some.inj e).symm))
      have hG2 := grown_trans hG gr2
      clear HCW HDW hg hw hG gr2 hK13
      have HCW := HCW2
      have HDW := HDW2
      have hg := hg2
      have hw := hw2
      have hG := hG2
      clear HCW2 HDW2 hg2 hw2 hG2
      refine wp_seq_k fun K14 hK14 => ?_
      refine regB_ok (b := 482) (j := 14) (p := 22) (s := 7) (q := 23) (s2 := 2) (r := 24) (u := 3) (T := T) (cap := cap) (by constructor <;> first | kernel_rfl | exact ⟨_, rfl⟩) (by decide) (by decide) (by decide) (by decide) (by decide) (by decide) (by decide) (by decide) (by decide) (by kernel_rfl) (by kernel_rfl) (by intro c a d v w h; cases d <;> exact h) ka HCW.out HDW.out hg (by simp [bvs_length]) hw (Nat.le_refl g) ?_
      clear ka
      intro a w2 ka hg2 gr2 hw2
      refine hK14 _ _ ?_
      have HCW2 : Hid (∀ i, i < 26 → w2.cell? ⟨gv, i, none⟩ = some (.int .u8 (B T i : Nat))) := Lib.hid (fun i hi => gr2.cell (HCW.out i hi) (by intro e; exact hne (Option.some.inj e)))
      have HDW2 : Hid (DTab w2) := Lib.hid (fun c hc => gr2.cell (HDW.out c hc) (by intro e; exact hg0 (Option.some.inj e).symm))
      have hG2 := grown_trans hG gr2
      clear HCW HDW hg hw hG gr2 hK14
      have HCW := HCW2
      have HDW := HDW2
      have hg := hg2
      have hw := hw2
      have hG := hG2
      clear HCW2 HDW2 hg2 hw2 hG2
      refine wp_seq_k fun K15 hK15 => ?_
      refine regA_ok (b := 505) (j := 15) (p := 24) (s := 5) (q := 25) (T := T) (cap := cap) (by constructor <;> first | kernel_rfl | exact ⟨_, rfl⟩) (by decide) (by decide) (by decide) (by decide) (by decide) (by decide) (by kernel_rfl) (by kernel_rfl) (by intro c a d v w h; cases d <;> exact h) ka HCW.out HDW.out hg (by simp [bvs_length]) hw (Nat.le_refl g) ?_
      clear ka
      intro a w2 ka hg2 gr2 hw2
      refine hK15 _ _ ?_
      have HCW2 : Hid (∀ i, i < 26 → w2.cell? ⟨gv, i, none⟩ = some (.int .u8 (B T i : Nat))) := Lib.hid (fun i hi => gr2.cell (HCW.out i hi) (by intro e; exact hne (Option.some.inj e)))
      have HDW2 : Hid (DTab w2) := Lib.hid (fun c hc => gr2.cell (HDW.out c hc) (by intro e; exact hg0 (Option.some.inj e).symm))
      have hG2 := grown_trans hG gr2
      clear HCW HDW hg hw hG gr2 hK15
      have HCW := HCW2
      have HDW := HDW2
      have hg := hg2
      have hw := hw2
      have hG := hG2
      clear HCW2 HDW2 hg2 hw2 hG2
      refine wp_seq_k fun K23 hK23 => ?_
      refine wp_region_lit ?_
      refine wp_val (wanted_free rfl) (do_assign rfl rfl) ?_
      refine hK23 _ _ (wp_ret ?_)
      rw [uB_laid] at hg
      refine ret_at (t := 6) rfl ka.2.1 (ev_self (by rw [ka.1]; decide)) ⟨fun h => (by rw [refuses, hb3, hb5] at h; cases h), fun _ => rfl, uB T, by simp [uB, uvals], hg, fun _ => rfl, hG⟩
end Go.Proofs.YtcojcohipmoopaaDoor
