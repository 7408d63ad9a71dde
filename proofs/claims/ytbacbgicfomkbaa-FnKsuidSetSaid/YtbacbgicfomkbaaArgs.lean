/- What the laws are told of a byte slice that came in. -/
import Derived.Test.YtbacbgicfomkbaaLaws
namespace Go.Proofs.Ytbacbgicfomkbaa
open Go.RowKit

/-- A slice of integers that came in: nil, or a row of cells. -/
def IsRow (k : IntKind) (w : World) (a : Option Addr) (len cap : Nat) (zs : List Int) : Prop :=
  (a = none ∧ len = 0 ∧ cap = 0 ∧ zs = []) ∨
  ∃ x, a = some x ∧ len ≤ cap ∧ cap ≤ maxLen ∧ zs.length = cap ∧ (∀ i, i < zs.length → w.cell? (x.add i) = some (.int k (zs.getD i 0))) ∧ ∀ n ∈ zs, (Lit.int k n).wf = true

theorem u8_of_wf {n : Int} (h : (Lit.int .u8 n).wf = true) : ((UInt8.ofNat n.toNat).toNat : Int) = n := by
  simp [Lit.wf, IntKind.min, IntKind.max, IntKind.signed, IntKind.bits] at h
  simp
  omega

/-- The bytes of such a slice. -/
theorem rd_of_row {w : World} {a : Option Addr} {len cap : Nat} {zs : List Int} (h : IsRow .u8 w a len cap zs) :
    ∃ bs : List UInt8, bs.length = len ∧ Rd w a bs ∧ bs.length ≤ cap ∧ cap ≤ 9223372036854775807 := by
  rcases h with ⟨rfl, rfl, rfl, rfl⟩ | ⟨x, rfl, hl, hm, hz, hc, hw⟩
  · exact ⟨[], rfl, ⟨by simp, .inl rfl⟩, by simp, by omega⟩
  · unfold maxLen at hm
    refine ⟨(zs.take len).map fun n => UInt8.ofNat n.toNat, by simp; omega, ⟨by simp; omega, ?_⟩, by simp; omega, by omega⟩
    by_cases h0 : len = 0
    · subst h0; exact .inl (by simp)
    · right
      obtain ⟨b, off, spot⟩ := x
      have hc0 := hc 0 (by omega)
      have hspot : spot = none := by simpa [Addr.add] using World.cell?_spot hc0
      subst hspot
      refine ⟨b, off, rfl, fun i hi => ?_⟩
      simp at hi
      have hi' : i < zs.length := by omega
      have := hc i hi'
      rw [Addr.add_mid] at this
      rw [this]
      have e : (((zs.take len).map fun n => UInt8.ofNat n.toNat).getD i 0) = UInt8.ofNat (zs.getD i 0).toNat := by
        simp [List.getElem?_take, show i < len by omega, hi']
      unfold B
      rw [e, u8_of_wf (hw _ (by simp [hi']))]
end Go.Proofs.Ytbacbgicfomkbaa
