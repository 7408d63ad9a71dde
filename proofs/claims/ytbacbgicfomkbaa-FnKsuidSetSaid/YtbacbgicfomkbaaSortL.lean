/- Lists of byte strings in ascending order: plain laws, with no program in sight. -/
import Derived.Test.YtbacbgicfomkbaaSpec
namespace Go.Proofs.Ytbacbgicfomkbaa
open Go.RowKit

theorem cmpL_swap : ∀ (x y : List UInt8), cmpL y x = - cmpL x y
  | [], [] => rfl
  | [], _ :: _ => rfl
  | _ :: _, [] => rfl
  | a :: u, b :: v => by
    unfold cmpL
    by_cases h : a = b
    · subst h
      rw [if_pos rfl, if_pos rfl]
      exact cmpL_swap u v
    · rw [if_neg h, if_neg (fun e => h e.symm)]
      by_cases hl : a < b
      · rw [if_pos hl, if_neg (fun h' => UInt8.lt_irrefl _ (UInt8.lt_trans hl h'))]; rfl
      · have : b < a := UInt8.lt_of_le_of_ne (UInt8.not_lt.1 hl) (fun e => h e.symm)
        rw [if_neg hl, if_pos this]
/-- In order. -/
def leL (x y : List UInt8) : Prop := cmpL x y ≤ 0
theorem leL_refl (x : List UInt8) : leL x x := by
  unfold leL
  rw [(cmpL_zero x x).2 rfl]
  exact Int.le_refl _
theorem leL_anti {x y : List UInt8} (h : leL x y) (h' : leL y x) : x = y := by
  unfold leL at *
  rw [cmpL_swap] at h'
  exact (cmpL_zero x y).1 (by omega)
theorem leL_total (x y : List UInt8) : leL x y ∨ leL y x := by
  unfold leL
  rw [cmpL_swap x y]
  omega
theorem leL_trans : ∀ {x y z : List UInt8}, leL x y → leL y z → leL x z
  | [], _, [], _, _ => by simp [leL, cmpL]
  | [], _, _ :: _, _, _ => by simp [leL, cmpL]
  | _ :: _, [], _, h, _ => by simp [leL, cmpL] at h
  | _ :: _, _ :: _, [], _, h => by simp [leL, cmpL] at h
  | a :: u, b :: v, c :: t, h1, h2 => by
    unfold leL cmpL at *
    by_cases e1 : a = b
    · subst e1
      rw [if_pos rfl] at h1
      by_cases e2 : a = c
      · subst e2
        rw [if_pos rfl] at h2 ⊢
        exact leL_trans (x := u) (y := v) (z := t) h1 h2
      · rw [if_neg e2] at h2 ⊢
        exact h2
    · rw [if_neg e1] at h1
      have l1 : a < b := by
        by_cases h : a < b
        · exact h
        · rw [if_neg h] at h1; omega
      by_cases e2 : b = c
      · subst e2
        rw [if_neg e1, if_pos l1]
        omega
      · rw [if_neg e2] at h2
        have l2 : b < c := by
          by_cases h : b < c
          · exact h
          · rw [if_neg h] at h2; omega
        have l3 := UInt8.lt_trans l1 l2
        rw [if_neg (fun e => by rw [e] at l3; exact UInt8.lt_irrefl _ l3), if_pos l3]
        omega
theorem leL_lt {x y : List UInt8} (h : 0 < cmpL x y) : leL y x := by
  unfold leL
  rw [cmpL_swap x y]
  omega
/-- Sorted lists of the same members are the same. -/
theorem sorted_unique {l m : List (List UInt8)} (hp : l.Perm m) (hl : l.Pairwise leL) (hm : m.Pairwise leL) : l = m :=
  hp.eq_of_pairwise (fun _ _ _ _ h h' => leL_anti h h') hl hm
theorem ins_perm (l : List (List UInt8)) (k : Nat) (b : List UInt8) : (l.take k ++ b :: l.drop k).Perm (b :: l) := by
  have := List.perm_middle (a := b) (l₁ := l.take k) (l₂ := l.drop k)
  rwa [List.take_append_drop] at this
theorem getD_mem {α : Type} {l : List α} {d : α} {i : Nat} (h : i < l.length) : l.getD i d ∈ l := by simp [h]
/-- Put in behind what is not greater, ahead of what is greater. -/
theorem ins_sorted {l : List (List UInt8)} {b : List UInt8} {k : Nat} (hs : l.Pairwise leL) (hk : k ≤ l.length) (hgt : ∀ i, k ≤ i → i < l.length → 0 < cmpL (l.getD i []) b)
    (hle : k = 0 ∨ cmpL (l.getD (k - 1) []) b ≤ 0) : (l.take k ++ b :: l.drop k).Pairwise leL := by
  have hs' := hs
  rw [← List.take_append_drop k l, List.pairwise_append] at hs'
  obtain ⟨h1, h2, h3⟩ := hs'
  rw [List.pairwise_append]
  refine ⟨h1, List.pairwise_cons.2 ⟨fun y hy => ?_, h2⟩, fun x hx y hy => ?_⟩
  · obtain ⟨i, hi, rfl⟩ := List.getElem_of_mem hy
    rw [List.length_drop] at hi
    have := hgt (k + i) (by omega) (by omega)
    rw [List.getElem_drop]
    have e : l.getD (k + i) [] = l[k + i] := by simp [show k + i < l.length by omega]
    rw [e] at this
    exact leL_lt this
  · rcases List.mem_cons.1 hy with rfl | hy
    · rcases hle with rfl | hle
      · simp at hx
      · obtain ⟨i, hi, rfl⟩ := List.getElem_of_mem hx
        rw [List.length_take] at hi
        rw [List.getElem_take]
        have hk1 : k - 1 < l.length := by omega
        have e : l.getD (k - 1) [] = l[k - 1] := by simp [hk1]
        rw [e] at hle
        by_cases hik : i = k - 1
        · subst hik
          exact hle
        · have := (List.pairwise_iff_getElem.1 hs) i (k - 1) (by omega) hk1 (by omega)
          exact leL_trans this hle
    · exact h3 x hx y hy
/-- Each at most the next one: sorted. -/
theorem chain_sorted : ∀ {l : List (List UInt8)}, (∀ i, i + 1 < l.length → leL (l.getD i []) (l.getD (i + 1) [])) → l.Pairwise leL
  | [], _ => List.Pairwise.nil
  | [_], _ => by simp
  | a :: b :: l, h => by
    have ih : (b :: l).Pairwise leL := chain_sorted fun i hi => by
      have := h (i + 1) (by simpa using hi)
      simpa using this
    have h0 : leL a b := by simpa using h 0 (by simp)
    refine List.pairwise_cons.2 ⟨fun y hy => ?_, ih⟩
    rcases List.mem_cons.1 hy with rfl | hy
    · exact h0
    · exact leL_trans h0 ((List.pairwise_cons.1 ih).1 y hy)
theorem sorted_chain {l : List (List UInt8)} (h : l.Pairwise leL) (i : Nat) (hi : i + 1 < l.length) : leL (l.getD i []) (l.getD (i + 1) []) := by
  have := (List.pairwise_iff_getElem.1 h) i (i + 1) (by omega) hi (by omega)
  simpa [hi, show i < l.length by omega] using this
/-- Two sorted parts round what lies between them. -/
theorem qs_join {A B A' B' : List (List UInt8)} {p : List UInt8} (hA : A'.Perm A) (hB : B'.Perm B) (sA : A'.Pairwise leL) (sB : B'.Pairwise leL) (lA : ∀ x ∈ A, leL x p) (lB : ∀ x ∈ B, leL p x) :
    (A' ++ p :: B').Pairwise leL ∧ (A' ++ p :: B').Perm (A ++ p :: B) := by
  refine ⟨List.pairwise_append.2 ⟨sA, List.pairwise_cons.2 ⟨fun y hy => lB y (hB.mem_iff.1 hy), sB⟩, fun x hx y hy => ?_⟩, hA.append (hB.cons p)⟩
  have h1 := lA x (hA.mem_iff.1 hx)
  rcases List.mem_cons.1 hy with rfl | hy
  · exact h1
  · exact leL_trans h1 (lB y (hB.mem_iff.1 hy))
end Go.Proofs.Ytbacbgicfomkbaa
