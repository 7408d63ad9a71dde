/- A region that draws its order, walked by a plan, with a kind more than XDraw.lean's: 3: what reads no memory (a move, a place): it yields its value in every world, and may still be to come when memory turns. -/
import Derived.Test.YtbacbgicfomkbaaDraw
namespace Go.Proofs.Ytbacbgicfomkbaa
open Go.RowKit
section
variable {P : Program} {ops : Array Oper} {Q : Exit → Act → World → Prop} {md : Region.Mode} {S : World → Prop} {nd : Nat → Bool}

/-- Whatever order is picked, and each operation for which 'nd' asks it keeps S. -/
def wpAnyD (P : Program) (md : Region.Mode) (ops : Array Oper) (Q : Exit → Act → World → Prop) (S : World → Prop) (nd : Nat → Bool) : Nat → Array Bool → Act → World → Prop
  | 0, listed, a, w => Region.ready md ops listed = [] ∧ Q .normal a w
  | fuel + 1, listed, a, w =>
    (Region.ready md ops listed = [] → Q .normal a w) ∧
    ∀ i ∈ Region.ready md ops listed, wpOp P ops Q i (fun a' w' => (nd i = true → S w → S w') ∧ wpAnyD P md ops Q S nd fuel (listed.setIfInBounds i true) a' w') a w
theorem wpAny_of_D : ∀ (fuel : Nat) (listed : Array Bool) (a : Act) (w : World), wpAnyD P md ops Q S nd fuel listed a w → wpAny P md ops Q fuel listed a w
  | 0, _, _, _, h => h
  | fuel + 1, _, _, _, h => ⟨h.1, fun i hi => wpOp_mono (fun a' w' h' => wpAny_of_D fuel _ a' w' h'.2) (h.2 i hi)⟩

/-- What reads comes first: in every world of S', where S' is S, or asks nothing. -/
theorem wpAnyD_first {S' : World → Prop} {i : Nat} {oi : Oper} {v : Value} (hi : ops[i]? = some oi) (hsel : ∀ (j : Nat) (o : Oper) cs b, ops[j]? = some o → o.op ≠ .select cs b)
    (hQ : ∀ c a w, Q (.panic c) (a.put oi.dst v) w → Q (.panic c) a w)
    (hnd : (∀ w, S' w) ∨ ((∀ w, S' w → S w) ∧ (∀ w, S w → S' w) ∧ ∀ j, j ≠ i → reach md ops i 7 j = false → nd j = true)) :
    ∀ (fuel : Nat) (listed : Array Bool) (a : Act) (w : World), Closed md ops listed →
      (∀ j oj, ops[j]? = some oj → j ≠ i → listed.getD j true = false → (∀ e ∈ oj.after, Region.binds md e = true → e.on ≠ i) → oi.apart ops oj = true) →
      i ∈ Region.ready md ops listed → YieldsC P ops S' oi v a → S' w →
      wpAnyD P md ops Q S nd fuel (listed.setIfInBounds i true) (a.put oi.dst v) w → wpAnyD P md ops Q S nd (fuel + 1) listed a w := by
  intro fuel
  induction fuel with
  | zero =>
    intro listed a w _ _ hr hy hS H
    refine ⟨fun h => (by rw [h] at hr; cases hr), fun j hj => ?_⟩
    by_cases hji : j = i
    · subst hji; exact hy.wpOp hi hS ⟨fun _ hw => hw, H⟩
    · have := ready_mono hj hji
      rw [H.1] at this
      cases this
  | succ fuel ih =>
    intro listed a w hcl hfree hr hy hS H
    refine ⟨fun h => (by rw [h] at hr; cases hr), fun j hj => ?_⟩
    by_cases hji : j = i
    · subst hji; exact hy.wpOp hi hS ⟨fun _ hw => hw, H⟩
    · have h1 := H.2 j (ready_mono hj hji)
      obtain ⟨hjun, oj, hoj, hall⟩ := mem_ready.1 hj
      have hnot : ∀ e ∈ oj.after, Region.binds md e = true → e.on ≠ i := fun e he hb heq => by
        have h1 := hall e he hb
        have h0 := (mem_ready.1 hr).1
        rw [heq] at h1
        rcases Nat.lt_or_ge i listed.size with h' | h'
        · simp [h'] at h0 h1; rw [h0] at h1; cases h1
        · simp [Array.getElem?_eq_none h'] at h1
      have hkeep : ∀ w', (nd j = true → S w → S w') → S' w' := by
        rcases hnd with hall' | ⟨hto, hfrom, hndj⟩
        · exact fun w' _ => hall' w'
        · intro w' hk
          refine hfrom w' (hk (hndj j hji ?_) (hto w hS))
          rw [Bool.eq_false_iff]
          intro hre
          have := reach_listed hcl 7 j (pred_ready hj) hre
          rw [not_listed hr] at this
          cases this
      have h2 := wpOp_putC hoj (hfree j oj hoj hji hjun hnot) (fun cs b => hsel i oi cs b hi) (fun cs b => hsel j oj cs b hoj) hQ hy h1
      have hfree' : ∀ k ok, ops[k]? = some ok → k ≠ i → (listed.setIfInBounds j true).getD k true = false →
          (∀ e ∈ ok.after, Region.binds md e = true → e.on ≠ i) → oi.apart ops ok = true := fun k ok hk hki hun hno => by
        refine hfree k ok hk hki ?_ hno
        by_cases hjk : j = k
        · subst hjk; exact hjun
        · rw [getD_set_ne true hjk] at hun; exact hun
      refine wpOp_mono (fun a' w' h3 => ⟨h3.2.1, ih (listed.setIfInBounds j true) a' w' (closed_set hcl hj) hfree' (ready_mono hr (Ne.symm hji)) h3.1 (hkeep w' h3.2.1) ?_⟩) h2
      rw [Array.setIfInBounds_comm _ _ hji]
      exact h3.2.2

def planOkF (md : Region.Mode) (ops : Array Oper) (st : List Nat) : List (Nat × Nat) → Array Bool → Bool
  | [], listed => (Region.ready md ops listed).isEmpty
  | (i, 0) :: rest, listed => st.contains i && Region.free md ops listed i && (Region.ready md ops listed).contains i && planOkF md ops st rest (listed.setIfInBounds i true)
  | (i, 1) :: rest, listed => (Region.ready md ops listed == [i]) && planOkF md ops st rest (listed.setIfInBounds i true)
  | (i, 2) :: rest, listed => (Region.ready md ops listed == [i]) && !needs md ops st i && rest.all (·.2 != 0) && planOkF md ops st rest (listed.setIfInBounds i true)
  | (i, _) :: rest, listed => Region.free md ops listed i && (Region.ready md ops listed).contains i && planOkF md ops st rest (listed.setIfInBounds i true)

/-- The walk by a plan. -/
def wpPlanF (P : Program) (ops : Array Oper) (Q : Exit → Act → World → Prop) (S : World → Prop) : List (Nat × Oper) → Act → World → Prop
  | [], a, w => Q .normal a w
  | (0, o) :: rest, a, w => ∃ v, YieldsC P ops S o v a ∧ wpPlanF P ops Q S rest (a.put o.dst v) w
  | (1, o) :: rest, a, w => wpList P ops (Exit.then (fun a' w' => S w' ∧ wpPlanF P ops Q S rest a' w') Q) [o] a w
  | (2, o) :: rest, a, w => wpList P ops (Exit.then (fun a' w' => wpPlanF P ops Q S rest a' w') Q) [o] a w
  | (_, o) :: rest, a, w => ∃ v, YieldsC P ops (fun _ => True) o v a ∧ wpPlanF P ops Q S rest (a.put o.dst v) w

theorem planF_sound {l : List Oper} (st : List Nat) (hs : Region.noSelect l.toArray = true) (hQ : ∀ c a d v w, Q (.panic c) (a.put d v) w → Q (.panic c) a w) :
    ∀ (plan : List (Nat × Nat)) (fuel : Nat) (listed : Array Bool) (a : Act) (w : World), Closed md l.toArray listed → planOkF md l.toArray st plan listed = true → plan.length ≤ fuel → (plan.any (·.2 == 0) = true → S w) →
      wpPlanF P l.toArray Q S (planOps l plan) a w → wpAnyD P md l.toArray Q S (needs md l.toArray st) fuel listed a w
  | [], fuel, listed, a, w, _, hok, _, _, h => by
    have hr : Region.ready md l.toArray listed = [] := by simpa [planOkF] using hok
    cases fuel with
    | zero => exact ⟨hr, h⟩
    | succ fuel => exact ⟨fun _ => h, fun i hi => by rw [hr] at hi; cases hi⟩
  | (i, k) :: rest, 0, _, _, _, _, _, hf, _, _ => by simp at hf
  | (i, 0) :: rest, fuel + 1, listed, a, w, hcl, hok, hf, hS, h => by
    simp only [planOkF, Bool.and_eq_true] at hok
    obtain ⟨⟨⟨h1, h2⟩, h3⟩, h4⟩ := hok
    have hri : i ∈ Region.ready md l.toArray listed := by simpa using h3
    obtain ⟨o, hlo, ho⟩ := oper_of_ready hri
    simp only [planOps, List.filterMap_cons, hlo, Option.map_some] at h
    obtain ⟨v, hy, h⟩ := h
    refine wpAnyD_first ho (Region.noSelect_spec hs) (fun c a w => hQ c a _ _ w) (.inr ⟨fun _ h => h, fun _ h => h, ?_⟩) fuel listed a w hcl (Region.free_spec ho h2) hri hy (hS (by simp)) ?_
    · intro j hji hno
      unfold needs
      rw [List.any_eq_true]
      refine ⟨i, by simpa using h1, ?_⟩
      simp only [hno, Bool.not_false, Bool.and_true, bne_iff_ne, ne_eq]
      exact fun e => hji e.symm
    · exact planF_sound st hs hQ rest fuel _ _ _ (closed_set hcl hri) h4 (by simp at hf; omega) (fun hr => hS (by simp)) h
  | (i, 1) :: rest, fuel + 1, listed, a, w, hcl, hok, hf, hS, h => by
    simp only [planOkF, Bool.and_eq_true] at hok
    obtain ⟨h1, h3⟩ := hok
    have hr : Region.ready md l.toArray listed = [i] := by simpa using h1
    have hri : i ∈ Region.ready md l.toArray listed := by rw [hr]; exact List.mem_singleton.2 rfl
    obtain ⟨o, hlo, ho⟩ := oper_of_ready hri
    simp only [planOps, List.filterMap_cons, hlo, Option.map_some] at h
    refine ⟨fun h0 => (by rw [hr] at h0; cases h0), fun j hj => ?_⟩
    rw [hr] at hj
    obtain rfl : j = i := by simpa using hj
    exact wpOp_mono (fun a' w' h' => ⟨fun _ _ => h'.1, planF_sound st hs hQ rest fuel _ _ _ (closed_set hcl hri) h3 (by simp at hf; omega) (fun _ => h'.1) h'.2⟩) (wpOp_of_list ho h)
  | (i, 2) :: rest, fuel + 1, listed, a, w, hcl, hok, hf, hS, h => by
    simp only [planOkF, Bool.and_eq_true] at hok
    obtain ⟨⟨⟨h1, h2⟩, h4⟩, h3⟩ := hok
    have hr : Region.ready md l.toArray listed = [i] := by simpa using h1
    have hri : i ∈ Region.ready md l.toArray listed := by rw [hr]; exact List.mem_singleton.2 rfl
    obtain ⟨o, hlo, ho⟩ := oper_of_ready hri
    simp only [planOps, List.filterMap_cons, hlo, Option.map_some] at h
    refine ⟨fun h0 => (by rw [hr] at h0; cases h0), fun j hj => ?_⟩
    rw [hr] at hj
    obtain rfl : j = i := by simpa using hj
    refine wpOp_mono (fun a' w' h' => ⟨fun hn => ?_, planF_sound st hs hQ rest fuel _ _ _ (closed_set hcl hri) h3 (by simp at hf; omega) (fun hr' => ?_) h'⟩) (wpOp_of_list ho h)
    · rw [hn] at h2; cases h2
    · exfalso
      rw [List.any_eq_true] at hr'
      obtain ⟨x, hx, hx2⟩ := hr'
      have := List.all_eq_true.1 h4 x hx
      simp only [beq_iff_eq] at hx2
      rw [hx2] at this
      cases this
  | (i, k + 3) :: rest, fuel + 1, listed, a, w, hcl, hok, hf, hS, h => by
    simp only [planOkF, Bool.and_eq_true] at hok
    obtain ⟨⟨h2, h3⟩, h4⟩ := hok
    have hri : i ∈ Region.ready md l.toArray listed := by simpa using h3
    obtain ⟨o, hlo, ho⟩ := oper_of_ready hri
    simp only [planOps, List.filterMap_cons, hlo, Option.map_some] at h
    obtain ⟨v, hy, h⟩ := h
    refine wpAnyD_first (S' := fun _ => True) ho (Region.noSelect_spec hs) (fun c a w => hQ c a _ _ w) (.inl fun _ => trivial) fuel listed a w hcl (Region.free_spec ho h2) hri hy trivial ?_
    exact planF_sound st hs hQ rest fuel _ _ _ (closed_set hcl hri) h4 (by simp at hf; omega) (fun hr => hS (by simp only [List.any_cons, hr, Bool.or_true])) h

/-- THE BEGINNING. -/
theorem region_planF {id : Nat} {l : List Oper} {a : Act} {w : World} (S : World → Prop) (plan : List (Nat × Nat)) (hm : P.follows .mixedOrders = true) (hs : Region.noSelect l.toArray = true)
    (hok : planOkF .any l.toArray ((plan.filter (·.2 == 0)).map (·.1)) plan (Array.replicate l.length false) = true) (hl : plan.length = l.length)
    (hQ : ∀ c a d v w, Q (.panic c) (a.put d v) w → Q (.panic c) a w) (hS : ∀ w', w'.heap = w.heap → Below w.heap.size w w' → S w')
    (h : ∀ w', w'.heap = w.heap → Below w.heap.size w w' → wpPlanF P l.toArray Q S (planOps l plan) a w') : (Code.region id l.toArray true).wp P Q a w :=
  wp_region_any hm (wpAny_of_D _ _ _ _ (by
    have := planF_sound (S := S) (md := .any) (l := l) _ hs hQ plan l.toArray.size (Array.replicate l.toArray.size false) a { w with drawn := w.drawn + 1 } (by intro j hj; exfalso; rw [Array.getD_eq_getD_getElem?, Array.getElem?_replicate] at hj; split at hj <;> simp at hj) (by simpa using hok) (by simp [hl]) (fun _ => hS _ rfl ⟨rfl, rfl, rfl, Nat.le_refl _, fun _ _ => rfl⟩) (h _ rfl ⟨rfl, rfl, rfl, Nat.le_refl _, fun _ _ => rfl⟩)
    exact this))

/-! The moves. -/
theorem planF_still {rest : List (Nat × Oper)} {o : Oper} {v : Value} {a : Act} {w : World} (hw : Region.wanted o (yielded ops a.tmps) = true) (hy : ∀ w', S w' → (execOp a.eval o).run P w' = .ok (.value v) w')
    (h : wpPlanF P ops Q S rest (a.put o.dst v) w) : wpPlanF P ops Q S ((0, o) :: rest) a w := ⟨v, .inl ⟨hw, fun w' hS => by unfold Oper.quietAt; rw [hy w' hS]; exact ⟨rfl, rfl⟩⟩, h⟩
theorem planF_free {rest : List (Nat × Oper)} {o : Oper} {v : Value} {a : Act} {w : World} (hw : Region.wanted o (yielded ops a.tmps) = true) (hy : ∀ w', True → (execOp a.eval o).run P w' = .ok (.value v) w')
    (h : wpPlanF P ops Q S rest (a.put o.dst v) w) : wpPlanF P ops Q S ((3, o) :: rest) a w := ⟨v, .inl ⟨hw, fun w' hS => by unfold Oper.quietAt; rw [hy w' hS]; exact ⟨rfl, rfl⟩⟩, h⟩
theorem planF_do {rest : List (Nat × Oper)} {o : Oper} {a : Act} {w : World}
    (h : wpList P ops (Exit.then (fun a' w' => S w' ∧ wpPlanF P ops Q S rest a' w') Q) [o] a w) : wpPlanF P ops Q S ((1, o) :: rest) a w := h
theorem planF_last {rest : List (Nat × Oper)} {o : Oper} {a : Act} {w : World}
    (h : wpList P ops (Exit.then (fun a' w' => wpPlanF P ops Q S rest a' w') Q) [o] a w) : wpPlanF P ops Q S ((2, o) :: rest) a w := h
theorem planF_nil {a : Act} {w : World} (h : Q .normal a w) : wpPlanF P ops Q S [] a w := h
end
end Go.Proofs.Ytbacbgicfomkbaa
