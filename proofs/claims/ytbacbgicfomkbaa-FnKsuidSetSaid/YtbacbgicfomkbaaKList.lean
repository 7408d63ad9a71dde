/- Slices of byte slices, and slices of KSUIDs: what is read, what a call has made; the laws' and the reference's small functions over them. -/
import Derived.Test.YtbacbgicfomkbaaGuard
import Derived.Test.YtbacbgicfomkbaaCmp
import Derived.Test.YtbacbgicfomkbaaSortL
import Derived.Maps.AppendAt
namespace Go.Proofs.Ytbacbgicfomkbaa
open Go.RowKit
set_option linter.unusedVariables false
set_option linter.unusedSimpArgs false

/-- What a call owns, as a block. -/
theorem own_blk {w : World} {base e size : Nat} {v : Value} {n : Nat} {xs : List Value} (h : w.ownsRow base e size v n xs) (hn : 0 < n) :
    ∃ g cap more, v = .slice (some ⟨g, 0, none⟩) n cap ∧ base ≤ g ∧ Blk w g (xs ++ more) e ∧ n ≤ cap ∧ cap ≤ maxLen ∧ (xs ++ more).length = cap * size := by
  obtain ⟨hl, h⟩ := h
  rcases h with ⟨_, h0⟩ | ⟨g, cap, cur, rfl, hb, hg, hnc, hm, hs, ht⟩
  · omega
  · refine ⟨g, cap, cur.toList.drop (n * size), rfl, hb, ?_, hnc, hm, ?_⟩
    · unfold Blk
      rw [hg, ← ht, List.take_append_drop]
    · rw [← ht, List.take_append_drop, Array.length_toList, hs]
theorem own_mk {w : World} {base e size g n cap : Nat} {xs more : List Value} (hg : Blk w g (xs ++ more) e) (hb : base ≤ g) (hn : n ≤ cap) (hm : cap ≤ maxLen) (hl : (xs ++ more).length = cap * size) (hx : xs.length = n * size) :
    w.ownsRow base e size (.slice (some ⟨g, 0, none⟩) n cap) n xs :=
  ⟨hx, .inr ⟨g, cap, _, rfl, hb, hg, hn, hm, by simpa using hl, by simp [← hx]⟩⟩

/-! KSUIDs one behind the other. -/
def flatK (ks : List (List UInt8)) : List Value := ks.flatMap bvs
def All20 (ks : List (List UInt8)) : Prop := ∀ x ∈ ks, x.length = 20
theorem All20.tail {k : List UInt8} {ks : List (List UInt8)} (h : All20 (k :: ks)) : All20 ks := fun x hx => h x (List.mem_cons_of_mem _ hx)
theorem All20.at {ks : List (List UInt8)} (h : All20 ks) {i : Nat} (hi : i < ks.length) : (ks.getD i []).length = 20 := h _ (getD_mem hi)
theorem All20.set {ks : List (List UInt8)} (h : All20 ks) (i : Nat) {x : List UInt8} (hx : x.length = 20) : All20 (ks.set i x) := fun y hy => by
  rcases List.mem_or_eq_of_mem_set hy with h' | h'
  · exact h y h'
  · rw [h']; exact hx
theorem All20.perm {ks js : List (List UInt8)} (h : All20 ks) (hp : js.Perm ks) : All20 js := fun x hx => h x (hp.mem_iff.1 hx)
theorem flatK_nil : flatK [] = [] := rfl
theorem flatK_cons (k : List UInt8) (ks : List (List UInt8)) : flatK (k :: ks) = bvs k ++ flatK ks := rfl
theorem flatK_append (a b : List (List UInt8)) : flatK (a ++ b) = flatK a ++ flatK b := by simp [flatK]
theorem flatK_length : ∀ {ks : List (List UInt8)}, All20 ks → (flatK ks).length = 20 * ks.length
  | [], _ => rfl
  | k :: ks, h => by
    rw [flatK_cons, List.length_append, bvs_length, h k (List.mem_cons_self ..), flatK_length h.tail, List.length_cons]
    omega
theorem flatK_one (ks : List (List UInt8)) : ∀ u ∈ flatK ks, u.oneCell' = true := by
  intro u hu
  obtain ⟨k, _, hk⟩ := List.mem_flatMap.1 hu
  exact bvs_one k u hk
theorem flatK_at : ∀ {ks : List (List UInt8)}, All20 ks → ∀ (i : Nat), i < ks.length → ∀ (more : List Value), ((flatK ks ++ more).drop (20 * i)).take 20 = bvs (ks.getD i [])
  | [], _, i, hi, _ => by simp at hi
  | k :: ks, h, 0, _, more => by
    have hk : (bvs k).length = 20 := by rw [bvs_length]; exact h k (List.mem_cons_self ..)
    rw [Nat.mul_zero, List.drop_zero, flatK_cons, List.append_assoc, List.take_left' hk]
    rfl
  | k :: ks, h, i + 1, hi, more => by
    have hk : (bvs k).length = 20 := by rw [bvs_length]; exact h k (List.mem_cons_self ..)
    have ih := flatK_at h.tail i (by simpa using hi) more
    rw [flatK_cons, List.append_assoc, show 20 * (i + 1) = 20 + 20 * i by omega, ← List.drop_drop, List.drop_left' hk]
    simpa using ih
theorem splice_left {α : Type} (A L m : List α) (n k : Nat) (hA : A.length = n) : splice (A ++ L) (n + k) m = A ++ splice L k m := by
  subst hA
  have h1 : A.length + k - A.length = k := by omega
  have h2 : A.length + k + m.length - A.length = k + m.length := by omega
  simp only [splice, List.take_append, List.drop_append, h1, h2, List.take_of_length_le (Nat.le_add_right _ _), List.drop_of_length_le (Nat.le_trans (Nat.le_add_right _ k) (Nat.le_add_right _ _)), List.nil_append, List.append_assoc]
theorem flatK_set : ∀ {ks : List (List UInt8)}, All20 ks → ∀ (i : Nat), i < ks.length → ∀ (x : List UInt8), x.length = 20 → ∀ (more : List Value), splice (flatK ks ++ more) (20 * i) (bvs x) = flatK (ks.set i x) ++ more
  | [], _, i, hi, _, _, _ => by simp at hi
  | k :: ks, h, 0, _, x, hx, more => by
    have hk : (bvs k).length = 20 := by rw [bvs_length]; exact h k (List.mem_cons_self ..)
    have hx' : (bvs x).length = 20 := by rw [bvs_length, hx]
    rw [List.set_cons_zero, flatK_cons, flatK_cons, List.append_assoc, List.append_assoc, Nat.mul_zero, splice, Nat.zero_add, hx', List.drop_left' hk, List.take_zero, List.nil_append]
  | k :: ks, h, i + 1, hi, x, hx, more => by
    have hk : (bvs k).length = 20 := by rw [bvs_length]; exact h k (List.mem_cons_self ..)
    have ih := flatK_set h.tail i (by simpa using hi) x hx more
    rw [List.set_cons_succ, flatK_cons, flatK_cons, List.append_assoc, List.append_assoc, show 20 * (i + 1) = 20 + 20 * i by omega, splice_left _ _ _ 20 _ hk, ih]
end Go.Proofs.Ytbacbgicfomkbaa
