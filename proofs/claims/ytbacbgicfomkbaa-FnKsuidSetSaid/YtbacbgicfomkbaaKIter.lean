/- Contract of CompressedSetIter.Next, by what the iterator is still to give. -/
import Derived.Test.YtbacbgicfomkbaaKNextR
import Derived.Test.YtbacbgicfomkbaaKNextT
import Derived.Test.YtbacbgicfomkbaaKNextD
import Derived.Test.YtbacbgicfomkbaaKNextG
namespace Go.Proofs.Ytbacbgicfomkbaa
open Go.RowKit
set_option linter.unusedVariables false
theorem drop_len {c q : List UInt8} {i : Nat} (hi : i ≤ c.length) (h : c.drop i = q) : c.length = i + q.length := by
  have := congrArg List.length h
  rw [List.length_drop] at this
  omega
theorem rest_nil {c : List UInt8} {off seq t v : Nat} (h : Rest c off seq t v []) : seq = 0 ∧ off = c.length := by
  obtain ⟨h1, h2, h3, h4, js, h5, h6⟩ := h
  cases seq with
  | succ s => simp [runs] at h5
  | zero =>
    refine ⟨rfl, ?_⟩
    have h5' : js = [] := by simpa [runs] using h5.symm
    subst h5'
    generalize hd : c.drop off = b at h6
    generalize hj : ([] : List (List UInt8)) = js at h6
    cases h6 with
    | nil => have := drop_len h1 hd; simpa using this.symm
    | raw => cases hj
    | time => cases hj
    | delta => cases hj
    | range t v m n ks b hm =>
      exfalso
      have := congrArg List.length hj
      rw [List.length_append, runs_length] at this
      simp at this
      omega
theorem next_nil (gi n cc off seq t v : Nat) (k c : List UInt8) (ad : Option Addr) (ty : TypeId) (w : World) (hk20 : k.length = 20) (BI : Blk w gi (itC k (.slice ad n cc) off seq t v) ty) (hcn : c.length = n) (hR : Rest c off seq t v []) :
    Calls Try.prog 47 #[.pointer (some ⟨gi, 0, none⟩)] w fun e w' => e = .returned (.bool false) ∧ Blk w' gi (itC k (.slice ad n cc) off seq t v) ty ∧ w.grownBy w' (some gi) := by
  obtain ⟨rfl, rfl⟩ := rest_nil hR
  rw [hcn] at BI ⊢
  exact next_end gi n cc t v k ad ty w hk20 BI
theorem next_cons (gi bc oc n cc off seq t v : Nat) (k c x : List UInt8) (ks : List (List UInt8)) (ty : TypeId) (w : World) (hk20 : k.length = 20) (BI : Blk w gi (itC k (.slice (some ⟨bc, oc, none⟩) n cc) off seq t v) ty) (RC : Rd w (some ⟨bc, oc, none⟩) c) (hcn : c.length = n) (hncc : n ≤ cc) (hn2 : n ≤ 100000) (hne : bc ≠ gi) (hR : Rest c off seq t v (x :: ks)) :
    Calls Try.prog 47 #[.pointer (some ⟨gi, 0, none⟩)] w fun e w' => e = .returned (.bool true) ∧ x.length = 20 ∧ ∃ off' seq' t' v', Blk w' gi (itC x (.slice (some ⟨bc, oc, none⟩) n cc) off' seq' t' v') ty ∧ w.grownBy w' (some gi) ∧ Rest c off' seq' t' v' ks := by
  obtain ⟨h1, h2, h3, h4, js, h5, h6⟩ := hR
  cases seq with
  | succ s =>
    rw [runs, List.cons_append] at h5
    injection h5 with e1 e2
    subst e1
    refine (next_run gi off s t v k _ ty w hk20 BI h2 (by omega) h4).mono ?_
    rintro e w' ⟨rfl, B, G⟩
    exact ⟨rfl, kid_length _ _, off, s, t, v + 1, B, G, h1, h2, by omega, by omega, js, e2, by rw [show v + 1 + s = v + (s + 1) by omega]; exact h6⟩
  | zero =>
    have h5' : js = x :: ks := by simpa [runs] using h5.symm
    subst h5'
    rw [Nat.add_zero] at h6
    generalize hd : c.drop off = b at h6
    generalize hj : x :: ks = js at h6
    cases h6 with
    | nil => cases hj
    | raw t v y zs b hy hE =>
      injection hj with e1 e2
      subst e1 e2
      refine (next_raw gi bc oc cc off n t v k c x b ty w hk20 BI RC hcn hncc hn2 hne h2 hy hd).mono ?_
      rintro e w' ⟨rfl, B, G⟩
      have hl := drop_len h1 hd
      rw [List.length_cons, List.length_append, hy] at hl
      have hd2 : c.drop (off + 1 + 20) = b := by rw [← List.drop_drop, (B_of_drop hd).2.2, List.drop_left' hy]
      exact ⟨rfl, hy, _, _, _, _, B, G, by omega, tOf_lt _, by have := vOf_lt _ hy; omega, by decide, ks, rfl, by rw [hd2]; exact hE⟩
    | time t v d m p zs b hm1 hm4 hdm htd hp hE =>
      injection hj with e1 e2
      subst e1 e2
      refine (next_time gi bc oc cc off n t v d m k c p b ty w hk20 BI RC hcn hncc hn2 hne h2 hm1 hm4 hdm htd hp hd).mono ?_
      rintro e w' ⟨rfl, B, G⟩
      have hl := drop_len h1 hd
      rw [List.length_cons, List.length_append, List.length_append, be_length, hp] at hl
      have hd2 : c.drop (off + 1 + m + 16) = b := by rw [← List.drop_drop, ← List.drop_drop, (B_of_drop hd).2.2, List.drop_left' (be_length m d), List.drop_left' hp]
      have hpl := num_lt p
      rw [hp] at hpl
      have h16 : (256 : Nat) ^ 16 = 340282366920938463463374607431768211456 := by decide
      exact ⟨rfl, it_length _ hp, _, _, _, _, B, G, by omega, htd, by omega, by decide, ks, rfl, by rw [hd2]; exact hE⟩
    | delta t v d m zs b hm1 hm16 hdm hvd hE =>
      injection hj with e1 e2
      subst e1 e2
      refine (next_delta gi bc oc cc off n t v d m k c b ty w hk20 BI RC hcn hncc hn2 hne h2 hm1 hm16 hdm hvd hd).mono ?_
      rintro e w' ⟨rfl, B, G⟩
      have hl := drop_len h1 hd
      rw [List.length_cons, List.length_append, be_length] at hl
      have hd2 : c.drop (off + 1 + m) = b := by rw [← List.drop_drop, (B_of_drop hd).2.2, List.drop_left' (be_length m d)]
      exact ⟨rfl, kid_length _ _, _, _, _, _, B, G, by omega, h2, by omega, by decide, ks, rfl, by rw [hd2]; exact hE⟩
    | range t v l m zs b hl1 hm1 hm8 hlm hvl hE =>
      obtain ⟨l, rfl⟩ : ∃ i, l = i + 1 := ⟨l - 1, by omega⟩
      rw [runs, List.cons_append] at hj
      injection hj with e1 e2
      subst e1
      have h64 : l + 1 < 18446744073709551616 := by
        have : 256 ^ m ≤ 256 ^ 8 := Nat.pow_le_pow_right (by decide) hm8
        have h8 : (256 : Nat) ^ 8 = 18446744073709551616 := by decide
        omega
      refine (next_range gi bc oc cc off n t v (l + 1) m k c b ty w hk20 BI RC hcn hncc hn2 hne h2 hm1 hm8 hl1 h64 hlm hvl hd).mono ?_
      rintro e w' ⟨rfl, B, G⟩
      have hl := drop_len h1 hd
      rw [List.length_cons, List.length_append, be_length] at hl
      have hd2 : c.drop (off + 1 + m) = b := by rw [← List.drop_drop, (B_of_drop hd).2.2, List.drop_left' (be_length m _)]
      exact ⟨rfl, kid_length _ _, _, _, _, _, B, G, by omega, h2, by omega, by omega, zs, e2, by rw [hd2, show v + 1 + (l + 1 - 1) = v + (l + 1) by omega]; exact hE⟩
end Go.Proofs.Ytbacbgicfomkbaa
