/- A slice of KSUIDs of the call's own, empty or not: IsSorted and Sort over it. -/
import Derived.Test.YtbacbgicfomkbaaAppK
namespace Go.Proofs.Ytbacbgicfomkbaa
open Go.RowKit
set_option linter.unusedVariables false
set_option linter.unusedSimpArgs false

theorem ksort_nil (ad : Option Addr) (c : Nat) (w : World) :
    Calls Try.prog 41 #[.slice ad 0 c] w fun e w' => e = .returned (.tuple #[]) ∧ w' = w := by
  have hq : Calls Try.prog 57 #[.slice ad 0 c, .int .i64 0, .int .i64 (-1)] w fun e w' => e = .returned (.tuple #[]) ∧ w' = w := by
    go_enter Try.func57, Try.ntmps57
    go_wp2
    go_end0
    exact ⟨rfl, rfl⟩
  have HQ := Lib.hid hq
  clear hq
  go_enter Try.func41, Try.ntmps41
  go_wp2_with (go_at_call 57; refine HQ.out.mono ?_)
  rintro e w8 ⟨rfl, rfl⟩
  go_wp2
  go_end0
  exact ⟨rfl, rfl⟩

/-- The slice, what it holds. -/
def OwnK (w : World) (base : Nat) (ad : Option Addr) (n cap : Nat) (ks : List (List UInt8)) : Prop :=
  ks.length = n ∧ All20 ks ∧ (n = 0 ∨ ∃ g more, ad = some ⟨g, 0, none⟩ ∧ base ≤ g ∧ n ≤ cap ∧ Blk w g (flatK ks ++ more) 59)
theorem OwnK.kept {w w' : World} {base n cap : Nat} {ad : Option Addr} {ks : List (List UInt8)} (h : OwnK w base ad n cap ks) (hb : Below w.heap.size w w') : OwnK w' base ad n cap ks :=
  ⟨h.1, h.2.1, h.2.2.imp id fun ⟨g, more, h1, h2, h3, h4⟩ => ⟨g, more, h1, h2, h3, h4.kept hb⟩⟩
theorem ownK_of {w : World} {base n : Nat} {v : Value} {ks : List (List UInt8)} (h : w.ownsRow base 59 20 v n (flatK ks)) (hn : ks.length = n) (h20 : All20 ks) : ∃ ad cap, v = .slice ad n cap ∧ OwnK w base ad n cap ks := by
  by_cases h0 : n = 0
  · subst h0
    rcases h.2 with ⟨rfl, _⟩ | ⟨g, cap, cur, rfl, _⟩
    · exact ⟨_, _, rfl, hn, h20, .inl rfl⟩
    · exact ⟨_, _, rfl, hn, h20, .inl rfl⟩
  · obtain ⟨g, cap, more, rfl, h1, h2, h3, _, _⟩ := own_blk h (by omega)
    exact ⟨_, _, rfl, hn, h20, .inr ⟨g, more, rfl, h1, h3, h2⟩⟩
theorem isSorted_all {w : World} {base n cap : Nat} {ad : Option Addr} {ks : List (List UInt8)} (h : OwnK w base ad n cap ks) (hn' : n ≤ 1000) :
    Calls Try.prog 40 #[.slice ad n cap] w fun e w' => ∃ b, e = .returned (.bool b) ∧ (b = true ↔ ks.Pairwise leL) ∧ Below w.heap.size w w' := by
  obtain ⟨hn, h20, h⟩ := h
  rcases h with rfl | ⟨g, more, rfl, h1, h2, h3⟩
  · obtain rfl : ks = [] := List.eq_nil_of_length_eq_zero hn
    refine (isSorted_nil ad cap w).mono ?_
    rintro e w' ⟨rfl, rfl⟩
    exact ⟨true, rfl, by simp, Below.refl _ _⟩
  · by_cases h0 : n = 0
    · subst h0
      obtain rfl : ks = [] := List.eq_nil_of_length_eq_zero hn
      refine (isSorted_nil _ cap w).mono ?_
      rintro e w' ⟨rfl, rfl⟩
      exact ⟨true, rfl, by simp, Below.refl _ _⟩
    · exact isSorted_ok ks g n cap more _ w hn (by omega) hn' h2 h20 h3
theorem ksort_all {w : World} {base n cap : Nat} {ad : Option Addr} {ks : List (List UInt8)} (h : OwnK w base ad n cap ks) (hn' : n ≤ 1000) (hbase : base ≤ w.heap.size) :
    Calls Try.prog 41 #[.slice ad n cap] w fun e w' => e = .returned (.tuple #[]) ∧ ∃ js, js.Perm ks ∧ js.Pairwise leL ∧ OwnK w' base ad n cap js ∧ (∀ w0, Below base w0 w → Below base w0 w') := by
  obtain ⟨hn, h20, h⟩ := h
  rcases h with rfl | ⟨g, more, rfl, h1, h2, h3⟩
  · obtain rfl : ks = [] := List.eq_nil_of_length_eq_zero hn
    refine (ksort_nil ad cap w).mono ?_
    rintro e w' ⟨rfl, rfl⟩
    exact ⟨rfl, [], List.Perm.refl _, List.Pairwise.nil, ⟨rfl, h20, .inl rfl⟩, fun _ h => h⟩
  · refine (ksort_ok ks g n cap more _ w hn hn' h2 h20 h3).mono ?_
    rintro e w' ⟨rfl, js, p1, p2, p3, p4⟩
    exact ⟨rfl, js, p1, p2, ⟨by rw [p1.length_eq, hn], h20.perm p1, .inr ⟨g, more, rfl, h1, h2, p3⟩⟩, fun w0 hb => hb.grown p4 hbase (fun j hj => by cases hj; exact h1)⟩
end Go.Proofs.Ytbacbgicfomkbaa
