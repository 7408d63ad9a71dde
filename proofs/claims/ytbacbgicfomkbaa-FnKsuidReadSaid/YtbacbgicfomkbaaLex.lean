/- A region that draws its order, whose first operations, in the text's order, only read (calls that only read among them): checked at a cost that grows with the edges alone. -/
import Derived.Test.YtbacbgicfomkbaaDraw
namespace Go.Proofs.Ytbacbgicfomkbaa
open Go.RowKit
section
variable {P : Program} {Q : Exit → Act → World → Prop} {md : Region.Mode} {S : World → Prop}
/-- Each writes a temporary of its own, above those that it looks at and those written ahead of it. -/
def incr (ops : Array Oper) : List Oper → Nat → Bool
  | [], _ => true
  | o :: r, lo => match o.dst with
    | some d => decide (lo ≤ d) && (o.looksAt ops).all (fun t => decide (t < d)) && incr ops r (d + 1)
    | none => false
theorem incr_le {ops : Array Oper} : ∀ {l : List Oper} {lo : Nat}, incr ops l lo = true → ∀ (i : Nat) (o : Oper), l[i]? = some o → ∃ d, o.dst = some d ∧ lo ≤ d ∧ ∀ t ∈ o.looksAt ops, t < d
  | [], _, _, i, o, ho => by simp at ho
  | x :: r, lo, h, i, o, ho => by
    unfold incr at h
    split at h
    · rename_i d hd
      simp only [Bool.and_eq_true, decide_eq_true_eq, List.all_eq_true] at h
      obtain ⟨⟨h1, h2⟩, h3⟩ := h
      cases i with
      | zero =>
        obtain rfl : x = o := by simpa using ho
        exact ⟨d, hd, h1, h2⟩
      | succ i =>
        obtain ⟨d', e1, e2, e3⟩ := incr_le h3 i o (by simpa using ho)
        exact ⟨d', e1, by omega, e3⟩
    · cases h
theorem incr_lt {ops : Array Oper} : ∀ {l : List Oper} {lo : Nat}, incr ops l lo = true → ∀ (i j : Nat) (o p : Oper) (d e : Nat), l[i]? = some o → l[j]? = some p → i < j → o.dst = some d → p.dst = some e → d < e
  | [], _, _, i, _, _, _, _, _, ho, _, _, _, _ => by simp at ho
  | x :: r, lo, h, i, j, o, p, d, e, ho, hp, hij, hd, he => by
    unfold incr at h
    split at h
    · rename_i d0 hd0
      simp only [Bool.and_eq_true, decide_eq_true_eq, List.all_eq_true] at h
      obtain ⟨⟨h1, h2⟩, h3⟩ := h
      cases j with
      | zero => omega
      | succ j =>
        cases i with
        | zero =>
          obtain rfl : x = o := by simpa using ho
          obtain ⟨d', e1, e2, _⟩ := incr_le h3 j p (by simpa using hp)
          rw [hd0] at hd
          rw [he] at e1
          cases hd
          cases e1
          omega
        | succ i => exact incr_lt h3 i j o p d e (by simpa using ho) (by simpa using hp) (by omega) hd he
    · cases h
/-- The check. -/
def lexOk (md : Region.Mode) (ops : Array Oper) (l : List Oper) (m d0 : Nat) : Bool :=
  incr ops (l.take m) d0 &&
  (l.drop m).all (fun o => match o.dst with | some d => decide (d < d0) && (l.take m).all (fun x => !(x.looksAt ops).contains d) | none => true) &&
  l.all (fun o => (o.looksAt ops).all fun t => decide (t < d0) || o.after.any fun e => Region.binds md e && ((l[e.on]?).bind (·.dst) == some t)) &&
  (l.take m).zipIdx.all (fun x => x.1.after.all fun e => !Region.binds md e || decide (e.on < x.2))

theorem lex_sound {l : List Oper} {m d0 : Nat} (hm : m ≤ l.length) (hs : Region.noSelect l.toArray = true) (hQ : ∀ c a d v w, Q (.panic c) (a.put d v) w → Q (.panic c) a w)
    (hok : lexOk md l.toArray l m d0 = true) (tail : List (Nat × Nat)) (ht : planOk md l.toArray (List.range m) tail (List.replicate m true ++ List.replicate (l.length - m) false).toArray = true) (hnz : tail.any (·.2 == 0) = false) :
    ∀ (r k : Nat), k + r = m → ∀ (fuel : Nat) (listed : Array Bool) (a : Act) (w : World), listed.size = l.length → (∀ j, j < l.length → listed[j]? = some (decide (j < k))) → Closed md l.toArray listed → r + tail.length ≤ fuel → S w →
      wpPlan P l.toArray Q S (planOps l ((List.range' k r).map (fun i => (i, 0)) ++ tail)) a w → wpAnyC P md l.toArray Q S (needs md l.toArray (List.range m)) fuel listed a w := by
  simp only [lexOk, Bool.and_eq_true] at hok
  obtain ⟨⟨⟨h1, h2⟩, h3⟩, h4⟩ := hok
  intro r
  induction r with
  | zero =>
    intro k hk fuel listed a w hsz hl hcl hf hS h
    have e : listed = (List.replicate m true ++ List.replicate (l.length - m) false).toArray := by
      apply Array.ext_getElem?
      intro j
      by_cases hj : j < l.length
      · rw [hl j hj, List.getElem?_toArray, List.getElem?_append]
        by_cases hjm : j < m
        · rw [if_pos (by simpa using hjm), List.getElem?_replicate, if_pos hjm]
          simp; omega
        · rw [if_neg (by simpa using hjm), List.getElem?_replicate, if_pos (by simp; omega)]
          simp; omega
      · rw [Array.getElem?_eq_none (by omega), List.getElem?_toArray, List.getElem?_eq_none (by simp; omega)]
    rw [← e] at ht
    have h' : wpPlan P l.toArray Q S (planOps l tail) a w := by simpa using h
    exact plan_sound (List.range m) hs hQ tail fuel listed a w hcl ht (by omega) (fun h0 => hS) h'
  | succ r ih =>
    intro k hk fuel listed a w hsz hl hcl hf hS h
    have hkl : k < l.length := by omega
    obtain ⟨fuel, rfl⟩ : ∃ f, fuel = f + 1 := ⟨fuel - 1, by omega⟩
    have ho : l[k]? = some l[k] := List.getElem?_eq_getElem hkl
    generalize l[k] = o at ho
    rw [List.range'_succ, List.map_cons, List.cons_append] at h
    simp only [planOps, List.filterMap_cons, ho, Option.map_some] at h
    obtain ⟨v, hy, h⟩ := h
    have hoa : l.toArray[k]? = some o := by simpa using ho
    have hop : (l.take m)[k]? = some o := by rw [List.getElem?_take, if_pos (by omega)]; exact ho
    obtain ⟨d, hd, hd0, hdl⟩ := incr_le h1 k o hop
    have hri : k ∈ Region.ready md l.toArray listed := by
      refine mem_ready.2 ⟨?_, o, hoa, fun e he hb => ?_⟩
      · rw [Array.getD_eq_getD_getElem?, hl k hkl]; simp
      · have := List.all_eq_true.1 h4 (o, k) (by
          rw [List.mem_iff_getElem?]
          exact ⟨k, by rw [List.getElem?_zipIdx, hop]; simp⟩)
        have := Array.all_eq_true_iff_forall_mem.1 this e he
        simp only [hb, Bool.not_true, Bool.false_or, decide_eq_true_eq] at this
        rw [Array.getD_eq_getD_getElem?, hl e.on (by omega)]
        simp [this]
    refine wpAnyC_first hoa (Region.noSelect_spec hs) (fun c a w => hQ c a _ _ w) ?_ fuel listed a w hcl ?_ hri hy hS ?_
    · intro j hjk hno
      unfold needs
      rw [List.any_eq_true]
      refine ⟨k, List.mem_range.2 (by omega), ?_⟩
      simp only [hno, Bool.not_false, Bool.and_true, bne_iff_ne, ne_eq]
      exact fun e => hjk e.symm
    · intro j oj hoj hjk hun hno
      have hjl : j < l.length := by simpa using (Array.getElem?_eq_some_iff.1 hoj).1
      have hoj' : l[j]? = some oj := by simpa using hoj
      have hjk' : k < j := by
        rw [Array.getD_eq_getD_getElem?, hl j hjl] at hun
        simp at hun
        omega
      have hlook : ∀ t ∈ oj.looksAt l.toArray, t ≠ d := by
        intro t hmem heq
        subst heq
        have := List.all_eq_true.1 (List.all_eq_true.1 h3 oj (List.mem_of_getElem? hoj')) t hmem
        simp only [Bool.or_eq_true, decide_eq_true_eq] at this
        rcases this with h' | h'
        · exact absurd (Nat.lt_of_le_of_lt hd0 h') (Nat.lt_irrefl _)
        · obtain ⟨e, he, hb⟩ := Array.any_eq_true'.1 h'
          simp only [Bool.and_eq_true, beq_iff_eq] at hb
          obtain ⟨hb1, hb2⟩ := hb
          obtain ⟨oi, hoi, hdi⟩ := Option.bind_eq_some_iff.1 hb2
          refine hno e he hb1 ?_
          rcases Nat.lt_trichotomy e.on k with hlt | heq | hgt
          · have := incr_lt h1 e.on k oi o t t (by rw [List.getElem?_take, if_pos (by omega)]; exact hoi) hop hlt hdi hd
            omega
          · exact heq
          · by_cases hem : e.on < m
            · have := incr_lt h1 k e.on o oi t t hop (by rw [List.getElem?_take, if_pos hem]; exact hoi) hgt hd hdi
              omega
            · have h5 := List.all_eq_true.1 h2 oi (by
                rw [List.mem_iff_getElem?]
                exact ⟨e.on - m, by rw [List.getElem?_drop, show m + (e.on - m) = e.on by omega]; exact hoi⟩)
              rw [hdi] at h5
              simp only [Bool.and_eq_true, decide_eq_true_eq] at h5
              exact absurd (Nat.lt_of_le_of_lt hd0 h5.1) (Nat.lt_irrefl _)
      have hdst : ∀ d', oj.dst = some d' → d' ≠ d ∧ d' ∉ o.looksAt l.toArray := by
        intro d' hd'
        by_cases hjm : j < m
        · have hlt := incr_lt h1 k j o oj d d' hop (by rw [List.getElem?_take, if_pos hjm]; exact hoj') hjk' hd hd'
          exact ⟨Nat.ne_of_gt hlt, fun hmem => Nat.lt_asymm hlt (hdl d' hmem)⟩
        · have h5 := List.all_eq_true.1 h2 oj (by
            rw [List.mem_iff_getElem?]
            exact ⟨j - m, by rw [List.getElem?_drop, show m + (j - m) = j by omega]; exact hoj'⟩)
          rw [hd'] at h5
          simp only [Bool.and_eq_true, decide_eq_true_eq] at h5
          have h6 := List.all_eq_true.1 h5.2 o (List.mem_of_getElem? hop)
          have h7 := h5.1
          exact ⟨Nat.ne_of_lt (Nat.lt_of_lt_of_le h7 hd0), fun hmem => by simp [hmem] at h6⟩
      unfold Oper.apart
      rw [hd]
      simp only [Bool.and_eq_true]
      refine ⟨⟨?_, ?_⟩, ?_⟩
      · simp only [Bool.not_eq_true', List.contains_eq_mem, decide_eq_false_iff_not]
        exact fun hmem => hlook d hmem rfl
      · rw [bne_iff_ne]
        exact fun h' => (hdst d h').1 rfl
      · cases hd' : oj.dst with
        | none => rfl
        | some d' =>
          simp only [Bool.not_eq_true', List.contains_eq_mem, decide_eq_false_iff_not]
          exact (hdst d' hd').2
    · refine ih (k + 1) (by omega) fuel _ _ _ (by simpa using hsz) ?_ (closed_set hcl hri) (by omega) hS h
      intro j hj
      rw [Array.getElem?_setIfInBounds]
      by_cases hjk : k = j
      · subst hjk
        rw [if_pos rfl, if_pos (by omega)]
        simp
      · rw [if_neg hjk, hl j hj]
        congr 1
        simp only [decide_eq_decide]
        omega

/-- THE BEGINNING: the first m operations only read, whatever the order; no guard's operation is looked at by its edges. -/
theorem region_lex {id : Nat} {l : List Oper} {a : Act} {w : World} (S : World → Prop) (m d0 : Nat) (tail : List (Nat × Nat)) (hm : P.follows .mixedOrders = true) (hs : Region.noSelect l.toArray = true)
    (hok : lexOk .any l.toArray l m d0 = true) (hml : m + tail.length = l.length) (ht : planOk .any l.toArray (List.range m) tail (List.replicate m true ++ List.replicate (l.length - m) false).toArray = true) (hnz : tail.any (·.2 == 0) = false)
    (hQ : ∀ c a d v w, Q (.panic c) (a.put d v) w → Q (.panic c) a w) (hS : ∀ w', w'.heap = w.heap → Below w.heap.size w w' → S w')
    (h : ∀ OPS w', w'.heap = w.heap → Below w.heap.size w w' → wpPlan P OPS Q S (planOps2 l ((List.range' 0 m).map (fun i => (i, 0)) ++ tail)) a w') : (Code.region id l.toArray true).wp P Q a w :=
  wp_region_any hm (wpAny_of_C _ _ _ _ (by
    have := lex_sound (P := P) (Q := Q) (S := S) (md := .any) (l := l) (m := m) (d0 := d0) (by omega) hs hQ hok tail ht hnz m 0 (Nat.zero_add m) l.toArray.size (Array.replicate l.toArray.size false) a { w with drawn := w.drawn + 1 } (by simp)
      (by intro j hj; rw [Array.getElem?_replicate, if_pos (by simpa using hj)]; simp)
      (by intro j hj; exfalso; rw [Array.getD_eq_getD_getElem?, Array.getElem?_replicate] at hj; split at hj <;> simp at hj) (by simp; omega) (hS _ rfl ⟨rfl, rfl, rfl, Nat.le_refl _, fun _ _ => rfl⟩)
      (wpPlan_strip _ _ _ (by rw [← planOps2_eq]; exact h _ _ rfl ⟨rfl, rfl, rfl, Nat.le_refl _, fun _ _ => rfl⟩))
    exact this))
end
end Go.Proofs.Ytbacbgicfomkbaa
