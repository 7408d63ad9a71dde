/- Contracts of the reference's small functions: Same, Join. -/
import Derived.Test.YtjmmkjdlkecmhaaBe
namespace Go.Proofs.Ytjmmkjdlkecmhaa
open Go.RowKit

theorem cmpL_zero : ∀ (x y : List UInt8), cmpL x y = 0 ↔ x = y
  | [], [] => by simp [cmpL]
  | [], _ :: _ => by simp [cmpL]
  | _ :: _, [] => by simp [cmpL]
  | a :: u, b :: v => by
    by_cases h : a = b
    · simp [cmpL, h, cmpL_zero u v]
    · simp only [cmpL, h, if_false, List.cons.injEq, false_and, iff_false]
      split <;> omega

theorem info5 : (Try.prog.info? 5).map (fun i => (i.zero, i.size, i.bytes)) = some (some (.int .u8 0), 1, 1) := by kernel_rfl

theorem same_any (a1 a2 : Option Addr) (x y : List UInt8) (c1 c2 : Nat) (w : World) (h1 : Rd w a1 x) (h2 : Rd w a2 y) :
    Calls Try.prog 7 #[.slice a1 x.length c1, .slice a2 y.length c2] w fun e w' => e = .returned (.bool (decide (x = y))) ∧ ∃ n, w' = w.drewN n := by
  have l1 := h1.1
  have l2 := h2.1
  by_cases hl : x.length = y.length
  · have hz := cmpL_zero x y
    have HZ := Lib.hid hz
    have hb : ((x.length : Int) == (y.length : Int)) = true := eqb_of hl
    have HL := Lib.hid hl
    clear hl hz
    go_enter Try.func7, Try.ntmps7
    go_wp2_with (go_at_call 15; refine (compare_any _ _ x y _ _ _ h1 h2).mono ?_; rintro e w' ⟨rfl, n, rfl⟩)
    go_ret
    refine ⟨?_, n, rfl⟩
    by_cases e : x = y
    · have := HZ.out.2 e
      rw [this, decide_eq_true e]
      rfl
    · have : ¬ cmpL x y = 0 := fun h => e (HZ.out.1 h)
      simp [this, e]
  · have hb : ((x.length : Int) == (y.length : Int)) = false := eqb_ne hl
    have hne : ¬ x = y := fun e => hl (by rw [e])
    have HN := Lib.hid hne
    clear hl hne
    go_enter Try.func7, Try.ntmps7
    go_wp2
    go_ret
    exact ⟨by simp [HN.out], 0, rfl⟩
theorem same_at {a1 a2 : Option Addr} {n1 n2 c1 c2 : Nat} (x y : List UInt8) {w : World} (h1 : Rd w a1 x) (h2 : Rd w a2 y) (e1 : x.length = n1) (e2 : y.length = n2) :
    Calls Try.prog 7 #[.slice a1 n1 c1, .slice a2 n2 c2] w fun e w' => e = .returned (.bool (decide (x = y))) ∧ ∃ n, w' = w.drewN n := by
  subst e1 e2; exact same_any a1 a2 x y c1 c2 w h1 h2
theorem same_eq {a1 a2 : Option Addr} {n1 n2 c1 c2 : Nat} {x : List UInt8} {w : World} (h1 : Rd w a1 x) (h2 : Rd w a2 x) (e1 : x.length = n1) (e2 : x.length = n2) :
    Calls Try.prog 7 #[.slice a1 n1 c1, .slice a2 n2 c2] w fun e w' => e = .returned (.bool true) ∧ ∃ n, w' = w.drewN n := by
  refine (same_at x x h1 h2 e1 e2).mono ?_
  rintro e w' ⟨rfl, n, rfl⟩
  exact ⟨by simp, n, rfl⟩

set_option maxRecDepth 100000 in
theorem join_any (a1 a2 : Option Addr) (x y : List UInt8) (c1 c2 : Nat) (w : World) (h1 : Rd w a1 x) (h2 : Rd w a2 y) (hl : x.length + y.length ≤ 140737488355328) :
    Calls Try.prog 5 #[.slice a1 x.length c1, .slice a2 y.length c2] w fun e w' => ∃ v, e = .returned v ∧ OwnB w' w.heap.size 5 v (x ++ y) ∧ Below w.heap.size w w' := by
  have hb := Below.refl w.heap.size w
  have o1 := OwnB.empty w w.heap.size 5 (Nat.le_refl _)
  have hb1 := hb.alloc (Nat.le_refl _) (.cells #[] 5)
  have r1 := h1.kept hb1
  have r2 := h2.kept hb1
  go_enter Try.func5, Try.ntmps5
  go_wp2_with (at_builtin; refine wp_append_rd rfl rfl Try.underlying22 info5 rfl rfl rfl o1 r1 rfl (by simp; omega) (by simp) ?_)
  intro v2 w2 o2 g2
  have hb2 := hb1.grown g2 (by simp) (fun k hk => (o1.lt k hk).1)
  have r2' := h2.kept hb2
  go_wp2_with (at_builtin; refine wp_append_rd rfl rfl Try.underlying22 info5 rfl rfl rfl o2 r2' rfl (by first | omega | (simp; omega)) hb2.size ?_)
  intro v3 w3 o3 g3
  have hb3 := hb2.grown g3 hb2.size (fun k hk => (o2.lt k hk).1)
  go_wp2
  go_ret
  exact ⟨_, rfl, by simpa using o3, hb3⟩
theorem join_at {a1 a2 : Option Addr} {n1 n2 c1 c2 : Nat} (x y : List UInt8) {w : World} (h1 : Rd w a1 x) (h2 : Rd w a2 y) (e1 : x.length = n1) (e2 : y.length = n2) (hl : n1 + n2 ≤ 140737488355328) :
    Calls Try.prog 5 #[.slice a1 n1 c1, .slice a2 n2 c2] w fun e w' => ∃ a cap, e = .returned (.slice a (n1 + n2) cap) ∧ Rd w' a (x ++ y) ∧ (∀ p, a = some p → w.heap.size ≤ p.block) ∧ Below w.heap.size w w' := by
  subst e1 e2
  refine (join_any a1 a2 x y c1 c2 w h1 h2 hl).mono ?_
  rintro e w' ⟨v, rfl, ho, hb⟩
  obtain ⟨a, cap, rfl, hr, hf⟩ := ho.rd
  exact ⟨a, cap, by rw [List.length_append], hr, hf, hb⟩
/-- The first bytes of a slice. -/
theorem Rd.take {w : World} {a : Option Addr} {bs : List UInt8} (h : Rd w a bs) (k : Nat) : Rd w a (bs.take k) := by
  refine ⟨by rw [List.length_take]; have := h.1; omega, ?_⟩
  rcases h.2 with rfl | ⟨b, off, rfl, hc⟩
  · exact .inl (by simp)
  · by_cases h0 : bs.take k = []
    · exact .inl h0
    · refine .inr ⟨b, off, rfl, fun i hi => ?_⟩
      rw [List.length_take] at hi
      rw [hc i (by omega)]
      simp [B, show i < k by omega]
theorem Rd.drew {w : World} {a : Option Addr} {bs : List UInt8} (h : Rd w a bs) (n : Nat) : Rd (w.drewN n) a bs := h
end Go.Proofs.Ytjmmkjdlkecmhaa
