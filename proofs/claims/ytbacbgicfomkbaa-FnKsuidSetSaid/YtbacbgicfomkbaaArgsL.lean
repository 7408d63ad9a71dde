/- What the laws are told of a slice of byte slices that came in. -/
import Derived.Test.YtbacbgicfomkbaaArgs
import Derived.Deep.Matrix
namespace Go.Proofs.Ytbacbgicfomkbaa
open Go.RowKit

def IsRows (w : World) (a : Option Addr) (len cap : Nat) : Prop :=
  (a = none ∧ len = 0 ∧ cap = 0) ∨
  ∃ x, a = some x ∧ len ≤ cap ∧ cap ≤ maxLen ∧ ∀ r, r < cap → ∃ A L C Z, w.cell? (x.add r) = some (.slice A L C) ∧ IsRow .u8 w A L C Z

theorem isRow_of {w : World} {A : Option Addr} {L C : Nat} {Z : List Int} (h1 : L ≤ C) (h2 : C ≤ maxLen) (h3 : Z.length = C) (h4 : ∀ n ∈ Z, (Lit.int .u8 n).wf = true) (h5 : A = none → C = 0)
    (h6 : ∀ a', A = some a' → ∀ c, c < C → w.cell? (a'.add c) = some (.int .u8 (Z.getD c 0))) : IsRow .u8 w A L C Z := by
  cases A with
  | none =>
    have := h5 rfl
    exact .inl ⟨rfl, by omega, this, List.eq_nil_of_length_eq_zero (by omega)⟩
  | some x => exact .inr ⟨x, rfl, h1, h2, h3, fun i hi => h6 x rfl i (by omega), h4⟩

theorem rdL_of_rows {w : World} {a : Option Addr} {len cap : Nat} (h : IsRows w a len cap) :
    ∃ ls : List (List UInt8), ls.length = len ∧ RdL w a ls ∧ ls.length ≤ cap ∧ cap ≤ 9223372036854775807 := by
  rcases h with ⟨rfl, rfl, rfl⟩ | ⟨x, rfl, hl, hm, hr⟩
  · exact ⟨[], rfl, ⟨by simp, .inl rfl⟩, by simp, by omega⟩
  · unfold maxLen at hm
    have each : ∀ r, r < len → ∃ y : List UInt8 × Option Addr × Nat, w.cell? (x.add r) = some (.slice y.2.1 y.1.length y.2.2) ∧ Rd w y.2.1 y.1 := by
      intro r hr'
      obtain ⟨A, L, C, Z, h1, h2⟩ := hr r (by omega)
      obtain ⟨bs, rfl, h3, _, _⟩ := rd_of_row h2
      exact ⟨(bs, A, C), h1, h3⟩
    obtain ⟨y, hy⟩ := Go.Deep.choose_lt each
    refine ⟨(List.range len).map fun r => (y r).1, by simp, ⟨by simp; omega, ?_⟩, by simp; exact hl, by omega⟩
    by_cases h0 : len = 0
    · subst h0; exact .inl (by simp)
    · right
      obtain ⟨b, off, spot⟩ := x
      have hc0 := (hy 0 (by omega)).1
      have hspot : spot = none := by simpa [Addr.add] using World.cell?_spot hc0
      subst hspot
      refine ⟨b, off, rfl, fun i hi => ?_⟩
      simp at hi
      have := hy i hi
      rw [Addr.add_mid] at this
      have e : ((List.range len).map fun r => (y r).1).getD i [] = (y i).1 := by simp [hi]
      rw [e]
      exact ⟨_, _, this.1, this.2⟩
end Go.Proofs.Ytbacbgicfomkbaa
