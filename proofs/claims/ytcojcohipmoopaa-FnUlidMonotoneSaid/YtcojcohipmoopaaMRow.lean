/- Slices of integers of 64 bits, read (lines of XTimes.lean); the reference's Number (lines of XUTime.lean). -/
import Derived.Test.YtcojcohipmoopaaArgs
import Derived.Test.YtcojcohipmoopaaMMono
namespace Go.Proofs.Ytcojcohipmoopaa
open Go.RowKit
set_option linter.unusedVariables false
/-- The cells of a slice of integers, as far as it is read. -/
def RdI (k : IntKind) (w : World) (a : Option Addr) (zs : List Int) : Prop :=
  zs.length ≤ 9223372036854775807 ∧ (∀ z ∈ zs, (Lit.int k z).wf = true) ∧ (zs = [] ∨ ∃ b off, a = some ⟨b, off, none⟩ ∧ ∀ i, i < zs.length → w.cell? ⟨b, off + i, none⟩ = some (.int k (zs.getD i 0)))
theorem RdI.kept {k : IntKind} {w w' : World} {a : Option Addr} {zs : List Int} (h : RdI k w a zs) (hb : Below w.heap.size w w') : RdI k w' a zs := by
  refine ⟨h.1, h.2.1, ?_⟩
  rcases h.2.2 with h0 | ⟨b, off, ha, hc⟩
  · exact .inl h0
  · refine .inr ⟨b, off, ha, fun i hi => ?_⟩
    have := hc i hi
    rw [hb.cell (World.block_lt_of_cell? w _ this)]
    exact this
theorem RdI.drew {k : IntKind} {w : World} {a : Option Addr} {zs : List Int} (h : RdI k w a zs) (n : Nat) : RdI k (w.drewN n) a zs := h
theorem rdI_of_row {k : IntKind} {w : World} {a : Option Addr} {len cap : Nat} {zs : List Int} (h : IsRow k w a len cap zs) :
    ∃ bs : List Int, bs.length = len ∧ RdI k w a bs ∧ bs.length ≤ cap ∧ cap ≤ 9223372036854775807 := by
  rcases h with ⟨rfl, rfl, rfl, rfl⟩ | ⟨x, rfl, hl, hm, hz, hc, hw⟩
  · exact ⟨[], rfl, ⟨by simp, by simp, .inl rfl⟩, by simp, by omega⟩
  · unfold maxLen at hm
    refine ⟨zs.take len, by simp; omega, ⟨by simp; omega, fun z hz' => hw z (List.mem_of_mem_take hz'), ?_⟩, by simp; omega, by omega⟩
    by_cases h0 : len = 0
    · subst h0; exact .inl (by simp)
    · right
      obtain ⟨b, off, spot⟩ := x
      have hc0 := hc 0 (by omega)
      have hspot : spot = none := by simpa [Addr.add] using World.cell?_spot hc0
      subst hspot
      refine ⟨b, off, rfl, fun i hi => ?_⟩
      simp at hi
      have hi' : i < zs.length := by omega
      have := hc i hi'
      rw [Addr.add_mid] at this
      rw [this]
      simp [List.getElem?_take, show i < len by omega]

theorem num_take_succ (x : List UInt8) (k : Nat) (h : k < x.length) : num (x.take (k + 1)) = num (x.take k) * 256 + B x k := by
  rw [List.take_succ_eq_append_getElem h, num_append]
  have e : num [x[k]] = B x k := by simp [num, B, h]
  rw [e, List.length_singleton, Nat.pow_one]
theorem num_take_lt (x : List UInt8) (k : Nat) (h : k ≤ 8) : num (x.take k) < 18446744073709551616 := by
  have h1 := num_lt (x.take k)
  have h2 : 256 ^ (x.take k).length ≤ 256 ^ 8 := Nat.pow_le_pow_right (by decide) (by rw [List.length_take]; omega)
  have h3 : (256 : Nat) ^ 8 = 18446744073709551616 := by decide
  omega
set_option maxRecDepth 100000 in
theorem number_ok (a : Option Addr) (x : List UInt8) (n c : Nat) (w : World) (h : Rd w a x) (hl : x.length = n) (hn : n ≤ 8) :
    Calls Try.prog 5 #[.slice a n c] w fun e w' => e = .returned (.int .u64 (num x)) ∧ w = w' := by
  have L := Lib.hid hl
  clear hl
  go_enter Try.func5, Try.ntmps5
  go_wp2
  go_loopw [3, 8] (fun nv i wr => ∃ k : Nat, k ≤ n ∧ i = .int .i64 k ∧ nv = .int .u64 (num (x.take k)) ∧ w = wr) (fun _ i _ => n - (intOf i).toNat)
  case atStart => exact ⟨0, Nat.zero_le _, rfl, rfl, rfl⟩
  case round =>
    obtain ⟨k, hk, rfl, rfl, rfl⟩ := hrel
    by_cases hlt : k < n
    · obtain ⟨b, o, rfl, hc⟩ := h.2.resolve_left (by intro h; have := L.out; simp [h] at this; omega)
      have c1 := hc k (by rw [L.out]; exact hlt)
      have e1 := num_take_succ x k (by rw [L.out]; exact hlt)
      have l1 := num_take_lt x (k + 1) (by omega)
      have hbl := B_lt x k
      rw [e1] at l1
      have E1 := Lib.hid e1
      clear e1 hc
      generalize num (x.take k) = v at *
      generalize B x k = bb at *
      go_wp2
      go_roundw
      case rel => exact ⟨k + 1, by omega, by go_num, by rw [E1.out]; go_num, by first | rfl | trivial⟩
      case measure => simp [intOf]; omega
    · obtain rfl : k = n := by omega
      have e : x.take k = x := List.take_of_length_le (by rw [L.out]; exact Nat.le_refl _)
      rw [e]
      go_wp2
      go_ret
      exact ⟨rfl, rfl⟩
end Go.Proofs.Ytcojcohipmoopaa
