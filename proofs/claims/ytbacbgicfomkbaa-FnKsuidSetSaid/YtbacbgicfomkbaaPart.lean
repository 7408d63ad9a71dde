/- The parting of a list round its last member: plain laws, with no program in sight. -/
import Derived.Test.YtbacbgicfomkbaaSortL
namespace Go.Proofs.Ytbacbgicfomkbaa
open Go.RowKit

theorem set_mid {α : Type} (P Q : List α) (a b : α) {n : Nat} (h : n = P.length) : (P ++ a :: Q).set n b = P ++ b :: Q := by
  subst h; simp
theorem getD_mid {α : Type} (P Q : List α) (a d : α) {n : Nat} (h : n = P.length) : (P ++ a :: Q).getD n d = a := by
  subst h; simp
/-- Two members change places. -/
def swapL (ks : List (List UInt8)) (i j : Nat) : List (List UInt8) := (ks.set i (ks.getD j [])).set j (ks.getD i [])
theorem swapL_length (ks : List (List UInt8)) (i j : Nat) : (swapL ks i j).length = ks.length := by simp [swapL]
theorem swapL_mid (P M Q : List (List UInt8)) (a b : List UInt8) {i j : Nat} (hi : i = P.length) (hj : j = P.length + 1 + M.length) : swapL (P ++ a :: (M ++ b :: Q)) i j = P ++ b :: (M ++ a :: Q) := by
  have e1 : (P ++ a :: (M ++ b :: Q)).getD i [] = a := getD_mid P _ a [] hi
  have e2 : (P ++ a :: (M ++ b :: Q)).getD j [] = b := by
    have : P ++ a :: (M ++ b :: Q) = (P ++ a :: M) ++ b :: Q := by simp
    rw [this]
    exact getD_mid _ _ _ _ (by simp; omega)
  unfold swapL
  rw [e1, e2, set_mid P _ a b hi]
  have : P ++ b :: (M ++ b :: Q) = (P ++ b :: M) ++ b :: Q := by simp
  rw [this, set_mid _ _ _ _ (by simp; omega)]
  simp
theorem swapL_same (ks : List (List UInt8)) (i : Nat) (h : i < ks.length) : swapL ks i i = ks := by
  unfold swapL
  rw [List.set_set]
  simp [h]

/-- On the way: what is less than p, what is not, what is to come, p. -/
def Part (A T C : List (List UInt8)) (p : List UInt8) (ks : List (List UInt8)) (k i : Nat) : Prop :=
  ∃ L R, ks = A ++ (L ++ (R ++ (T.drop k ++ p :: C))) ∧ (L ++ R).Perm (T.take k) ∧ (∀ x ∈ L, cmpL x p < 0) ∧ (∀ x ∈ R, 0 ≤ cmpL x p) ∧ i = A.length + L.length
theorem Part.start (A T C : List (List UInt8)) (p : List UInt8) : Part A T C p (A ++ (T ++ p :: C)) 0 A.length :=
  ⟨[], [], by simp, by simp, by simp, by simp, by simp⟩
theorem Part.lens {A T C ks : List (List UInt8)} {p : List UInt8} {k i : Nat} (h : Part A T C p ks k i) (hk : k ≤ T.length) : ks.length = A.length + T.length + 1 + C.length ∧ A.length ≤ i ∧ i ≤ A.length + k := by
  obtain ⟨L, R, rfl, hp, _, _, rfl⟩ := h
  have := hp.length_eq
  simp at this ⊢
  omega
theorem Part.less {A T C ks : List (List UInt8)} {p : List UInt8} {k i : Nat} (h : Part A T C p ks k i) (hk : k < T.length) (hc : cmpL (ks.getD (A.length + k) []) p < 0) : Part A T C p (swapL ks i (A.length + k)) (k + 1) (i + 1) := by
  have hl := h.lens (Nat.le_of_lt hk)
  obtain ⟨L, R, rfl, hp, h1, h2, rfl⟩ := h
  have hle := hp.length_eq
  simp at hle
  obtain ⟨x, hx⟩ : ∃ x, T[k]? = some x := ⟨T[k], by simp [hk]⟩
  have hd : T.drop k = x :: T.drop (k + 1) := by
    rw [List.drop_eq_getElem_cons hk]
    congr 1
    simpa [hk] using hx
  have ht : T.take (k + 1) = T.take k ++ [x] := by
    rw [List.take_add_one, hx]
    rfl
  rw [hd] at hc hl ⊢
  have hg : (A ++ (L ++ (R ++ (x :: T.drop (k + 1) ++ p :: C)))).getD (A.length + k) [] = x := by
    have e : A ++ (L ++ (R ++ (x :: T.drop (k + 1) ++ p :: C))) = (A ++ L ++ R) ++ x :: (T.drop (k + 1) ++ p :: C) := by simp
    rw [e]
    exact getD_mid _ _ _ _ (by simp; omega)
  rw [hg] at hc
  cases R with
  | nil =>
    simp only [List.append_nil] at hp
    refine ⟨L ++ [x], [], ?_, ?_, ?_, by simp, by simp; omega⟩
    · have : A.length + L.length = A.length + k := by simp at hle; omega
      rw [this, swapL_same _ _ (by simp; omega)]
      simp
    · rw [ht, List.append_nil]
      exact hp.append_right [x]
    · intro y hy
      rcases List.mem_append.1 hy with hy | hy
      · exact h1 y hy
      · obtain rfl : y = x := by simpa using hy
        exact hc
  | cons r R =>
    refine ⟨L ++ [x], R ++ [r], ?_, ?_, ?_, ?_, by simp; omega⟩
    · have e : A ++ (L ++ (r :: R ++ (x :: T.drop (k + 1) ++ p :: C))) = (A ++ L) ++ r :: (R ++ x :: (T.drop (k + 1) ++ p :: C)) := by simp
      rw [e, swapL_mid (A ++ L) R _ r x (by simp) (by simp at hle ⊢; omega)]
      simp
    · rw [ht]
      have e1 : (L ++ [x] ++ (R ++ [r])).Perm (L ++ (r :: R) ++ [x]) := by
        rw [List.append_assoc, List.append_assoc]
        refine List.Perm.append_left L ?_
        have a1 : ([x] ++ (R ++ [r])).Perm ((R ++ [r]) ++ [x]) := List.perm_append_comm
        refine a1.trans (List.Perm.append_right [x] ?_)
        exact List.perm_append_comm (l₁ := R) (l₂ := [r])
      exact e1.trans (hp.append_right [x])
    · intro y hy
      rcases List.mem_append.1 hy with hy | hy
      · exact h1 y hy
      · obtain rfl : y = x := by simpa using hy
        exact hc
    · intro y hy
      refine h2 y ?_
      simp at hy ⊢
      exact hy.symm
theorem Part.more {A T C ks : List (List UInt8)} {p : List UInt8} {k i : Nat} (h : Part A T C p ks k i) (hk : k < T.length) (hc : ¬ cmpL (ks.getD (A.length + k) []) p < 0) : Part A T C p ks (k + 1) i := by
  obtain ⟨L, R, rfl, hp, h1, h2, rfl⟩ := h
  have hle := hp.length_eq
  simp at hle
  obtain ⟨x, hx⟩ : ∃ x, T[k]? = some x := ⟨T[k], by simp [hk]⟩
  have hd : T.drop k = x :: T.drop (k + 1) := by
    rw [List.drop_eq_getElem_cons hk]
    congr 1
    simpa [hk] using hx
  have ht : T.take (k + 1) = T.take k ++ [x] := by
    rw [List.take_add_one, hx]
    rfl
  rw [hd] at hc ⊢
  have hg : (A ++ (L ++ (R ++ (x :: T.drop (k + 1) ++ p :: C)))).getD (A.length + k) [] = x := by
    have e : A ++ (L ++ (R ++ (x :: T.drop (k + 1) ++ p :: C))) = (A ++ L ++ R) ++ x :: (T.drop (k + 1) ++ p :: C) := by simp
    rw [e]
    exact getD_mid _ _ _ _ (by simp; omega)
  rw [hg] at hc
  refine ⟨L, R ++ [x], by simp, ?_, h1, ?_, rfl⟩
  · rw [ht, ← List.append_assoc]
    exact hp.append_right [x]
  · intro y hy
    rcases List.mem_append.1 hy with hy | hy
    · exact h2 y hy
    · obtain rfl : y = x := by simpa using hy
      omega
/-- Parted. -/
def Parted (A T C : List (List UInt8)) (p : List UInt8) (ks : List (List UInt8)) (i : Nat) : Prop :=
  ∃ L R, ks = A ++ (L ++ p :: (R ++ C)) ∧ (L ++ R).Perm T ∧ (∀ x ∈ L, leL x p) ∧ (∀ x ∈ R, leL p x) ∧ i = A.length + L.length
theorem Part.fin {A T C ks : List (List UInt8)} {p : List UInt8} {i : Nat} (h : Part A T C p ks T.length i) :
    ks.getD (A.length + T.length) [] = p ∧ (cmpL p (ks.getD i []) < 0 → Parted A T C p (swapL ks i (A.length + T.length)) i) ∧ (¬ cmpL p (ks.getD i []) < 0 → Parted A T C p ks i) := by
  obtain ⟨L, R, rfl, hp, h1, h2, rfl⟩ := h
  have hle := hp.length_eq
  simp only [List.take_length, List.length_append] at hle
  rw [List.take_length] at hp
  simp only [List.drop_length, List.nil_append]
  have hL : ∀ x ∈ L, leL x p := fun x hx => Int.le_of_lt (h1 x hx)
  have hR : ∀ x ∈ R, leL p x := fun x hx => by
    have := h2 x hx
    unfold leL
    rw [cmpL_swap x p]
    omega
  refine ⟨?_, fun hc => ?_, fun hc => ?_⟩
  · have e : A ++ (L ++ (R ++ p :: C)) = (A ++ L ++ R) ++ p :: C := by simp
    rw [e]
    exact getD_mid _ _ _ _ (by simp; omega)
  · cases R with
    | nil =>
      exfalso
      have e : A ++ (L ++ ([] ++ p :: C)) = (A ++ L) ++ p :: C := by simp
      rw [e, getD_mid _ _ _ _ (by simp)] at hc
      rw [(cmpL_zero p p).2 rfl] at hc
      omega
    | cons r R =>
      refine ⟨L, R ++ [r], ?_, ?_, hL, ?_, rfl⟩
      · have e : A ++ (L ++ (r :: R ++ p :: C)) = (A ++ L) ++ r :: (R ++ p :: C) := by simp
        rw [e, swapL_mid (A ++ L) R _ r p (by simp) (by simp at hle ⊢; omega)]
        simp
      · exact (List.Perm.append_left L (List.perm_append_comm (l₁ := R) (l₂ := [r]))).trans hp
      · intro y hy
        refine hR y ?_
        simp at hy ⊢
        exact hy.symm
  · cases R with
    | nil => exact ⟨L, [], by simp, hp, hL, by simp, rfl⟩
    | cons r R =>
      have e : A ++ (L ++ (r :: R ++ p :: C)) = (A ++ L) ++ r :: (R ++ p :: C) := by simp
      rw [e, getD_mid _ _ _ _ (by simp)] at hc
      have hrp : r = p := by
        have h3 := h2 r (List.mem_cons_self ..)
        rw [cmpL_swap r p] at hc
        exact (cmpL_zero r p).1 (by omega)
      subst hrp
      refine ⟨L, R ++ [r], by simp, ?_, hL, ?_, rfl⟩
      · exact (List.Perm.append_left L (List.perm_append_comm (l₁ := R) (l₂ := [r]))).trans hp
      · intro y hy
        refine hR y ?_
        simp at hy ⊢
        exact hy.symm
end Go.Proofs.Ytbacbgicfomkbaa
