/- Contracts of the reference's small functions: Same, Join. -/
import Derived.Test.YtbacbgicfomkbaaBe
namespace Go.Proofs.Ytbacbgicfomkbaa
open Go.RowKit

theorem cmpL_zero : ∀ (x y : List UInt8), cmpL x y = 0 ↔ x = y
  | [], [] => by simp [cmpL]
  | [], _ :: _ => by simp [cmpL]
  | _ :: _, [] => by simp [cmpL]
  | a :: u, b :: v => by
    by_cases h : a = b
    · simp [cmpL, h, cmpL_zero u v]
    · simp only [cmpL, h, if_false, List.cons.injEq, false_and, iff_false]
      split <;> omega

theorem info5 : (Try.prog.info? 5).map (fun i => (i.zero, i.size, i.bytes)) = some (some (.int .u8 0), 1, 1) := by kernel_rfl

theorem same_any (a1 a2 : Option Addr) (x y : List UInt8) (c1 c2 : Nat) (w : World) (h1 : Rd w a1 x) (h2 : Rd w a2 y) :
    Calls Try.prog 15 #[.slice a1 x.length c1, .slice a2 y.length c2] w fun e w' => e = .returned (.bool (decide (x = y))) ∧ ∃ n, w' = w.drewN n := by
  have l1 := h1.1
  have l2 := h2.1
  by_cases hl : x.length = y.length
  · have hz := cmpL_zero x y
    have HZ := Lib.hid hz
    have hb : ((x.length : Int) == (y.length : Int)) = true := eqb_of hl
    have HL := Lib.hid hl
    clear hl hz
    go_enter Try.func15, Try.ntmps15
    go_wp2_with (go_at_call 27; refine (compare_any _ _ x y _ _ _ h1 h2).mono ?_; rintro e w' ⟨rfl, n, rfl⟩)
    go_ret
    refine ⟨?_, n, rfl⟩
    by_cases e : x = y
    · have := HZ.out.2 e
      rw [this, decide_eq_true e]
      rfl
    · have : ¬ cmpL x y = 0 := fun h => e (HZ.out.1 h)
      simp [this, e]
  · have hb : ((x.length : Int) == (y.length : Int)) = false := eqb_ne hl
    have hne : ¬ x = y := fun e => hl (by rw [e])
    have HN := Lib.hid hne
    clear hl hne
    go_enter Try.func15, Try.ntmps15
    go_wp2
    go_ret
    exact ⟨by simp [HN.out], 0, rfl⟩
theorem same_at {a1 a2 : Option Addr} {n1 n2 c1 c2 : Nat} (x y : List UInt8) {w : World} (h1 : Rd w a1 x) (h2 : Rd w a2 y) (e1 : x.length = n1) (e2 : y.length = n2) :
    Calls Try.prog 15 #[.slice a1 n1 c1, .slice a2 n2 c2] w fun e w' => e = .returned (.bool (decide (x = y))) ∧ ∃ n, w' = w.drewN n := by
  subst e1 e2; exact same_any a1 a2 x y c1 c2 w h1 h2
theorem same_eq {a1 a2 : Option Addr} {n1 n2 c1 c2 : Nat} {x : List UInt8} {w : World} (h1 : Rd w a1 x) (h2 : Rd w a2 x) (e1 : x.length = n1) (e2 : x.length = n2) :
    Calls Try.prog 15 #[.slice a1 n1 c1, .slice a2 n2 c2] w fun e w' => e = .returned (.bool true) ∧ ∃ n, w' = w.drewN n := by
  refine (same_at x x h1 h2 e1 e2).mono ?_
  rintro e w' ⟨rfl, n, rfl⟩
  exact ⟨by simp, n, rfl⟩

set_option maxRecDepth 100000 in
theorem join_any (a1 a2 : Option Addr) (x y : List UInt8) (c1 c2 : Nat) (w : World) (h1 : Rd w a1 x) (h2 : Rd w a2 y) (hl : x.length + y.length ≤ 140737488355328) :
    Calls Try.prog 14 #[.slice a1 x.length c1, .slice a2 y.length c2] w fun e w' => ∃ v, e = .returned v ∧ OwnB w' w.heap.size 5 v (x ++ y) ∧ Below w.heap.size w w' := by
  have hb := Below.refl w.heap.size w
  have o1 := OwnB.empty w w.heap.size 5 (Nat.le_refl _)
  have hb1 := hb.alloc (Nat.le_refl _) (.cells #[] 5)
  have r1 := h1.kept hb1
  have r2 := h2.kept hb1
  go_enter Try.func14, Try.ntmps14
  go_wp2_with (at_builtin; refine wp_append_rd rfl rfl Try.underlying22 info5 rfl rfl rfl o1 r1 rfl (by simp; omega) (by simp) ?_)
  intro v2 w2 o2 g2
  have hb2 := hb1.grown g2 (by simp) (fun k hk => (o1.lt k hk).1)
  have r2' := h2.kept hb2
  go_wp2_with (at_builtin; refine wp_append_rd rfl rfl Try.underlying22 info5 rfl rfl rfl o2 r2' rfl (by first | omega | (simp; omega)) hb2.size ?_)
  intro v3 w3 o3 g3
  have hb3 := hb2.grown g3 hb2.size (fun k hk => (o2.lt k hk).1)
  go_wp2
  go_ret
  exact ⟨_, rfl, by simpa using o3, hb3⟩
theorem join_at {a1 a2 : Option Addr} {n1 n2 c1 c2 : Nat} (x y : List UInt8) {w : World} (h1 : Rd w a1 x) (h2 : Rd w a2 y) (e1 : x.length = n1) (e2 : y.length = n2) (hl : n1 + n2 ≤ 140737488355328) :
    Calls Try.prog 14 #[.slice a1 n1 c1, .slice a2 n2 c2] w fun e w' => ∃ a cap, e = .returned (.slice a (n1 + n2) cap) ∧ Rd w' a (x ++ y) ∧ (∀ p, a = some p → w.heap.size ≤ p.block) ∧ Below w.heap.size w w' := by
  subst e1 e2
  refine (join_any a1 a2 x y c1 c2 w h1 h2 hl).mono ?_
  rintro e w' ⟨v, rfl, ho, hb⟩
  obtain ⟨a, cap, rfl, hr, hf⟩ := ho.rd
  exact ⟨a, cap, by rw [List.length_append], hr, hf, hb⟩
/-- The bytes of a number, the first j of them not written yet. -/
def beRest (m n j : Nat) : List Value := List.replicate j (Value.int .u8 0) ++ (bvs (be m n)).drop j
theorem beRest_length (m n j : Nat) (hj : j ≤ m) : (beRest m n j).length = m := by simp [beRest, bvs_length, be_length]; omega
theorem be_step (m n j : Nat) (hj : j < m) : (beRest m n (j + 1)).set j (.int .u8 (B (be m n) j)) = beRest m n j := by
  unfold beRest
  have hl : j < (bvs (be m n)).length := by rw [bvs_length, be_length]; exact hj
  have hv : (bvs (be m n))[j] = .int .u8 (B (be m n) j) := by
    have := bvs_get (be m n) j (by rw [be_length]; exact hj)
    rw [List.getElem?_eq_getElem hl] at this
    exact Option.some.inj this
  rw [List.replicate_succ', List.append_assoc, List.set_append_right _ _ (by simp)]
  simp only [List.length_replicate, Nat.sub_self, List.singleton_append, List.set_cons_zero]
  rw [List.drop_eq_getElem_cons hl, hv]

set_option maxRecDepth 100000 in
theorem specBytes_ok (n m : Nat) (w : World) (hm : m ≤ 1000) (hn : n < 18446744073709551616) :
    Calls Try.prog 16 #[.int .u64 n, .int .i64 m] w fun e w' => e = .returned (.slice (some ⟨w.heap.size, 0, none⟩) m m) ∧ Blk w' w.heap.size (bvs (be m n)) 5 ∧ Below w.heap.size w w' := by
  have HN := Lib.hid hn
  clear hn
  go_enter Try.func16, Try.ntmps16
  go_wp2_with (at_make; refine wp_make_zero rfl rfl Try.underlying22 info5 rfl rfl rfl (by omega) (by omega) ?_)
  intro w1 b1 g1 s1
  have hb1 := below_grown g1
  have S1 := Lib.hid s1
  clear s1 g1
  go_wp2
  go_loopw [0, 6] (fun nv i wr => ∃ j : Nat, j ≤ m ∧ i = .int .i64 ((j : Int) - 1) ∧ nv = .int .u64 (n / 256 ^ (m - j) : Nat) ∧ Blk wr w.heap.size (beRest m n j) 5 ∧ Below w.heap.size w wr) (fun _ i _ => (intOf i + 1).toNat)
  case atStart => exact ⟨m, Nat.le_refl _, rfl, by simp, by rw [beRest, List.drop_of_length_le (by rw [bvs_length, be_length]; exact Nat.le_refl _), List.append_nil]; exact b1, hb1⟩
  case round =>
    obtain ⟨j, hj, rfl, rfl, hB, hw⟩ := hrel
    rcases j with _ | k
    · have e0 : (((0 : Nat) : Int) - 1) = -1 := rfl
      rw [e0]
      have hB0 : Blk wr w.heap.size (bvs (be m n)) 5 := hB
      go_wp2
      go_ret
      exact ⟨rfl, hB0, hw⟩
    · have e0 : (((k + 1 : Nat) : Int) - 1) = (k : Int) := by omega
      rw [e0]
      have hs := be_step m n k (by omega)
      have HS := Lib.hid hs
      have hb := B_be m n k (by omega)
      rw [show m - 1 - k = m - (k + 1) by omega] at hb
      have HB := Lib.hid hb
      have hd : n / 256 ^ (m - (k + 1)) / 256 = n / 256 ^ (m - k) := by rw [Nat.div_div_eq_div_mul, ← Nat.pow_succ, show (m - (k + 1)).succ = m - k by omega]
      have HD := Lib.hid hd
      have hq : n / 256 ^ (m - (k + 1)) < 18446744073709551616 := Nat.lt_of_le_of_lt (Nat.div_le_self _ _) HN.out
      clear e0 hs hb hd
      generalize hqe : n / 256 ^ (m - (k + 1)) = q at *
      have HW : Hid (IntKind.u64.wrap ((q : Int) / 256) = ((q / 256 : Nat) : Int)) := by show _ = _; rw [IntKind.wrap_u64]; omega
      clear hq hqe
      go_wp2_with (refine wp_store_cell rfl rfl (by kernel_rfl) rfl rfl rfl hB (by rw [beRest_length _ _ _ hj]; omega) ?_)
      intro w2 b2 g2 s2
      have hv : ((q : Int) % 256) = (B (be m n) k : Int) := by rw [HB.out]; omega
      rw [hv, HS.out] at b2
      have hw2 := hw.grown g2 hw.size (by rintro j ⟨⟩; exact Nat.le_refl _)
      clear hv g2 s2 hB hw
      go_wp2
      go_roundw
      case rel => exact ⟨k, by omega, rfl, by rw [HW.out, HD.out], b2, hw2⟩
      case measure => simp [intOf]
/-- The first bytes of a slice. -/
theorem Rd.take {w : World} {a : Option Addr} {bs : List UInt8} (h : Rd w a bs) (k : Nat) : Rd w a (bs.take k) := by
  refine ⟨by rw [List.length_take]; have := h.1; omega, ?_⟩
  rcases h.2 with rfl | ⟨b, off, rfl, hc⟩
  · exact .inl (by simp)
  · by_cases h0 : bs.take k = []
    · exact .inl h0
    · refine .inr ⟨b, off, rfl, fun i hi => ?_⟩
      rw [List.length_take] at hi
      rw [hc i (by omega)]
      simp [B, show i < k by omega]
theorem Rd.drew {w : World} {a : Option Addr} {bs : List UInt8} (h : Rd w a bs) (n : Nat) : Rd (w.drewN n) a bs := h
end Go.Proofs.Ytbacbgicfomkbaa
