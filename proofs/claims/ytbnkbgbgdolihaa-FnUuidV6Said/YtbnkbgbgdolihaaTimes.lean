/- Slices of integers of 64 bits: read; the reference's Timely. -/
import Derived.Test.YtbnkbgbgdolihaaArgs
import Derived.Test.YtbnkbgbgdolihaaV7
namespace Go.Proofs.Ytbnkbgbgdolihaa
open Go.RowKit
set_option linter.unusedVariables false

/-- The cells of a slice of integers, as far as it is read. -/
def RdI (k : IntKind) (w : World) (a : Option Addr) (zs : List Int) : Prop :=
  zs.length ≤ 9223372036854775807 ∧ (∀ z ∈ zs, (Lit.int k z).wf = true) ∧ (zs = [] ∨ ∃ b off, a = some ⟨b, off, none⟩ ∧ ∀ i, i < zs.length → w.cell? ⟨b, off + i, none⟩ = some (.int k (zs.getD i 0)))
theorem RdI.kept {k : IntKind} {w w' : World} {a : Option Addr} {zs : List Int} (h : RdI k w a zs) (hb : Below w.heap.size w w') : RdI k w' a zs := by
  refine ⟨h.1, h.2.1, ?_⟩
  rcases h.2.2 with h0 | ⟨b, off, ha, hc⟩
  · exact .inl h0
  · refine .inr ⟨b, off, ha, fun i hi => ?_⟩
    have := hc i hi
    rw [hb.cell (World.block_lt_of_cell? w _ this)]
    exact this
theorem RdI.drew {k : IntKind} {w : World} {a : Option Addr} {zs : List Int} (h : RdI k w a zs) (n : Nat) : RdI k (w.drewN n) a zs := h
theorem rdI_of_row {k : IntKind} {w : World} {a : Option Addr} {len cap : Nat} {zs : List Int} (h : IsRow k w a len cap zs) :
    ∃ bs : List Int, bs.length = len ∧ RdI k w a bs ∧ bs.length ≤ cap ∧ cap ≤ 9223372036854775807 := by
  rcases h with ⟨rfl, rfl, rfl, rfl⟩ | ⟨x, rfl, hl, hm, hz, hc, hw⟩
  · exact ⟨[], rfl, ⟨by simp, by simp, .inl rfl⟩, by simp, by omega⟩
  · unfold maxLen at hm
    refine ⟨zs.take len, by simp; omega, ⟨by simp; omega, fun z hz' => hw z (List.mem_of_mem_take hz'), ?_⟩, by simp; omega, by omega⟩
    by_cases h0 : len = 0
    · subst h0; exact .inl (by simp)
    · right
      obtain ⟨b, off, spot⟩ := x
      have hc0 := hc 0 (by omega)
      have hspot : spot = none := by simpa [Addr.add] using World.cell?_spot hc0
      subst hspot
      refine ⟨b, off, rfl, fun i hi => ?_⟩
      simp at hi
      have hi' : i < zs.length := by omega
      have := hc i hi'
      rw [Addr.add_mid] at this
      rw [this]
      simp [List.getElem?_take, show i < len by omega]

def timeOk (z : Int) : Bool := decide (0 ≤ z) && decide (z ≤ 4102444800000000000)
theorem timely_ok (a : Option Addr) (zs : List Int) (c : Nat) (w : World) (h : RdI .i64 w a zs) :
    Calls Try.prog 19 #[.slice a zs.length c] w fun e w' => e = .returned (.bool (zs.all timeOk && decide (zs.length ≤ 12))) ∧ w = w' := by
  obtain ⟨hl, hwf, hr⟩ := h
  go_enter Try.func19, Try.ntmps19
  go_wp2
  go_loopw [7] (fun i wr => ∃ k : Nat, k ≤ zs.length ∧ i = .int .i64 k ∧ Hid ((zs.take k).all timeOk = true) ∧ w = wr) (fun i _ => zs.length - (intOf i).toNat)
  case atStart => exact ⟨0, Nat.zero_le _, rfl, Lib.hid (by simp), rfl⟩
  case round =>
    obtain ⟨k, hk, rfl, hA, rfl⟩ := hrel
    by_cases hlt : k < zs.length
    · obtain ⟨b, o, rfl, hc⟩ := hr.resolve_left (by intro h; simp [h] at hlt)
      have c1 := hc k hlt
      have hg : zs.getD k 0 = zs[k] := by simp [hlt]
      have hwk := hwf (zs[k]) (by simp)
      rw [hg] at c1
      simp [Lit.wf, IntKind.min, IntKind.max, IntKind.signed, IntKind.bits] at hwk
      have hts : Hid ((zs.take (k + 1)).all timeOk = ((zs.take k).all timeOk && timeOk zs[k])) := Lib.hid (by rw [List.take_succ_eq_append_getElem hlt, List.all_append, List.all_cons, List.all_nil, Bool.and_true])
      have hbad : Hid (timeOk zs[k] = false → zs.all timeOk = false) := Lib.hid (by
        intro hf
        rw [Bool.eq_false_iff]
        intro ht
        have := List.all_eq_true.1 ht (zs[k]) (by simp)
        rw [this] at hf
        cases hf)
      clear hc hg
      generalize zs[k] = z at *
      by_cases h1 : z < 0
      · go_wp2
        go_ret
        exact ⟨by rw [hbad.out (by simp [timeOk]; omega)]; rfl, rfl⟩
      · by_cases h2 : 4102444800000000000 < z
        · go_wp2
          go_ret
          exact ⟨by rw [hbad.out (by simp [timeOk]; omega)]; rfl, rfl⟩
        · have hok : Hid (timeOk z = true) := Lib.hid (by simp [timeOk]; omega)
          go_wp2
          go_roundw
          case rel => exact ⟨k + 1, by omega, by go_num, Lib.hid (by rw [hts.out, hA.out, hok.out]; rfl), by first | rfl | trivial⟩
          case measure => simp [intOf]; omega
    · obtain rfl : k = zs.length := by omega
      have hall := hA.out
      rw [List.take_length] at hall
      have HA := Lib.hid hall
      clear hall hA
      go_wp2
      go_ret
      exact ⟨by rw [HA.out]; simp; omega, rfl⟩
end Go.Proofs.Ytbnkbgbgdolihaa
