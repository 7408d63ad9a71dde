/- A region that draws its order, walked by a tree of plans: where two may come up at once and neither only reads, both ways are walked. -/
import Derived.Test.YtbacbgicfomkbaaDraw
namespace Go.Proofs.Ytbacbgicfomkbaa
open Go.RowKit
inductive Tree where
  | nil
  | op (i k : Nat) (t : Tree)
  | fork (i j : Nat) (t u : Tree)
inductive OTree where
  | nil
  | op (k : Nat) (o : Oper) (t : OTree)
  | fork (o p : Oper) (t u : OTree)
namespace Tree
def deep : Tree → Nat
  | nil => 0
  | op _ _ t => t.deep + 1
  | fork _ _ t u => max t.deep u.deep + 1
def still : Tree → Bool
  | nil => false
  | op _ k t => k == 0 || t.still
  | fork _ _ t u => t.still || u.still
def stills : Tree → List Nat
  | nil => []
  | op i k t => if k == 0 then i :: t.stills else t.stills
  | fork _ _ t u => t.stills ++ u.stills
def opers (l : List Oper) : Tree → OTree
  | nil => .nil
  | op i k t => match l[i]? with | some o => .op k o (t.opers l) | none => .nil
  | fork i j t u => match l[i]?, l[j]? with | some o, some p => .fork o p (t.opers l) (u.opers l) | _, _ => .nil
end Tree
section
variable {P : Program} {ops : Array Oper} {Q : Exit → Act → World → Prop} {md : Region.Mode} {S : World → Prop} {nd : Nat → Bool}
def treeOk (md : Region.Mode) (ops : Array Oper) (st : List Nat) : Tree → Array Bool → Bool
  | .nil, listed => (Region.ready md ops listed).isEmpty
  | .op i k t, listed => (match k with
    | 0 => st.contains i && Region.free md ops listed i && (Region.ready md ops listed).contains i
    | 1 => Region.ready md ops listed == [i]
    | _ => (Region.ready md ops listed == [i]) && !needs md ops st i && !t.still) && treeOk md ops st t (listed.setIfInBounds i true)
  | .fork i j t u, listed => (Region.ready md ops listed == [i, j]) && treeOk md ops st t (listed.setIfInBounds i true) && treeOk md ops st u (listed.setIfInBounds j true)
/-- The walk by a tree. -/
def wpTree (P : Program) (ops : Array Oper) (Q : Exit → Act → World → Prop) (S : World → Prop) : OTree → Act → World → Prop
  | .nil, a, w => Q .normal a w
  | .op 0 o t, a, w => ∃ v, YieldsC P ops S o v a ∧ wpTree P ops Q S t (a.put o.dst v) w
  | .op 1 o t, a, w => wpList P ops (Exit.then (fun a' w' => S w' ∧ wpTree P ops Q S t a' w') Q) [o] a w
  | .op _ o t, a, w => wpList P ops (Exit.then (fun a' w' => wpTree P ops Q S t a' w') Q) [o] a w
  | .fork o p t u, a, w => wpList P ops (Exit.then (fun a' w' => S w' ∧ wpTree P ops Q S t a' w') Q) [o] a w ∧ wpList P ops (Exit.then (fun a' w' => S w' ∧ wpTree P ops Q S u a' w') Q) [p] a w

theorem tree_sound {l : List Oper} (st : List Nat) (hs : Region.noSelect l.toArray = true) (hQ : ∀ c a d v w, Q (.panic c) (a.put d v) w → Q (.panic c) a w) :
    ∀ (t : Tree) (fuel : Nat) (listed : Array Bool) (a : Act) (w : World), Closed md l.toArray listed → treeOk md l.toArray st t listed = true → t.deep ≤ fuel → (t.still = true → S w) →
      wpTree P l.toArray Q S (t.opers l) a w → wpAnyC P md l.toArray Q S (needs md l.toArray st) fuel listed a w := by
  intro t
  induction t with
  | nil =>
    intro fuel listed a w _ hok _ _ h
    have hr : Region.ready md l.toArray listed = [] := by simpa [treeOk] using hok
    cases fuel with
    | zero => exact ⟨hr, h⟩
    | succ fuel => exact ⟨fun _ => h, fun i hi => by rw [hr] at hi; cases hi⟩
  | op i k t ih =>
    intro fuel listed a w hcl hok hf hS h
    cases fuel with
    | zero => simp [Tree.deep] at hf
    | succ fuel =>
      simp only [treeOk, Bool.and_eq_true] at hok
      obtain ⟨h1, h4⟩ := hok
      have hf' : t.deep ≤ fuel := by simp [Tree.deep] at hf; omega
      match k, h1 with
      | 0, h1 =>
        simp only [Bool.and_eq_true] at h1
        obtain ⟨⟨h1, h2⟩, h3⟩ := h1
        have hri : i ∈ Region.ready md l.toArray listed := by simpa using h3
        obtain ⟨o, hlo, ho⟩ := oper_of_ready hri
        simp only [Tree.opers, hlo] at h
        obtain ⟨v, hy, h⟩ := h
        refine wpAnyC_first ho (Region.noSelect_spec hs) (fun c a w => hQ c a _ _ w) ?_ fuel listed a w hcl (Region.free_spec ho h2) hri hy (hS (by simp [Tree.still])) ?_
        · intro j hji hno
          unfold needs
          rw [List.any_eq_true]
          refine ⟨i, by simpa using h1, ?_⟩
          simp only [hno, Bool.not_false, Bool.and_true, bne_iff_ne, ne_eq]
          exact fun e => hji e.symm
        · exact ih fuel _ _ _ (closed_set hcl hri) h4 hf' (fun hr => hS (by simp [Tree.still])) h
      | 1, h1 =>
        have hr : Region.ready md l.toArray listed = [i] := by simpa using h1
        have hri : i ∈ Region.ready md l.toArray listed := by rw [hr]; exact List.mem_singleton.2 rfl
        obtain ⟨o, hlo, ho⟩ := oper_of_ready hri
        simp only [Tree.opers, hlo] at h
        refine ⟨fun h0 => (by rw [hr] at h0; cases h0), fun j hj => ?_⟩
        rw [hr] at hj
        obtain rfl : j = i := by simpa using hj
        exact wpOp_mono (fun a' w' h' => ⟨fun _ => h'.1, ih fuel _ _ _ (closed_set hcl hri) h4 hf' (fun _ => h'.1) h'.2⟩) (wpOp_of_list ho h)
      | k + 2, h1 =>
        simp only [Bool.and_eq_true] at h1
        obtain ⟨⟨h1, h2⟩, h3⟩ := h1
        have hr : Region.ready md l.toArray listed = [i] := by simpa using h1
        have hri : i ∈ Region.ready md l.toArray listed := by rw [hr]; exact List.mem_singleton.2 rfl
        obtain ⟨o, hlo, ho⟩ := oper_of_ready hri
        simp only [Tree.opers, hlo] at h
        refine ⟨fun h0 => (by rw [hr] at h0; cases h0), fun j hj => ?_⟩
        rw [hr] at hj
        obtain rfl : j = i := by simpa using hj
        refine wpOp_mono (fun a' w' h' => ⟨fun hn => ?_, ih fuel _ _ _ (closed_set hcl hri) h4 hf' (fun hr' => ?_) h'⟩) (wpOp_of_list ho h)
        · rw [hn] at h2; cases h2
        · rw [hr'] at h3; cases h3
  | fork i j t u iht ihu =>
    intro fuel listed a w hcl hok hf hS h
    cases fuel with
    | zero => simp [Tree.deep] at hf
    | succ fuel =>
      simp only [treeOk, Bool.and_eq_true] at hok
      obtain ⟨⟨h1, h4⟩, h5⟩ := hok
      have hft : t.deep ≤ fuel := by simp [Tree.deep] at hf; omega
      have hfu : u.deep ≤ fuel := by simp [Tree.deep] at hf; omega
      have hr : Region.ready md l.toArray listed = [i, j] := by simpa using h1
      have hri : i ∈ Region.ready md l.toArray listed := by rw [hr]; simp
      have hrj : j ∈ Region.ready md l.toArray listed := by rw [hr]; simp
      obtain ⟨o, hlo, ho⟩ := oper_of_ready hri
      obtain ⟨p, hlp, hp⟩ := oper_of_ready hrj
      simp only [Tree.opers, hlo, hlp] at h
      obtain ⟨ha, hb⟩ := h
      refine ⟨fun h0 => (by rw [hr] at h0; cases h0), fun x hx => ?_⟩
      rw [hr] at hx
      simp only [List.mem_cons, List.not_mem_nil, or_false] at hx
      rcases hx with rfl | rfl
      · exact wpOp_mono (fun a' w' h' => ⟨fun _ => h'.1, iht fuel _ _ _ (closed_set hcl hri) h4 hft (fun _ => h'.1) h'.2⟩) (wpOp_of_list ho ha)
      · exact wpOp_mono (fun a' w' h' => ⟨fun _ => h'.1, ihu fuel _ _ _ (closed_set hcl hrj) h5 hfu (fun _ => h'.1) h'.2⟩) (wpOp_of_list hp hb)

/-- THE BEGINNING. -/
theorem region_tree {id : Nat} {l : List Oper} {a : Act} {w : World} (S : World → Prop) (t : Tree) (hm : P.follows .mixedOrders = true) (hs : Region.noSelect l.toArray = true)
    (hok : treeOk .any l.toArray t.stills t (Array.replicate l.length false) = true) (hl : t.deep ≤ l.length)
    (hQ : ∀ c a d v w, Q (.panic c) (a.put d v) w → Q (.panic c) a w) (hS : ∀ w', w'.heap = w.heap → Below w.heap.size w w' → S w')
    (h : ∀ w', w'.heap = w.heap → Below w.heap.size w w' → wpTree P l.toArray Q S (t.opers l) a w') : (Code.region id l.toArray true).wp P Q a w :=
  wp_region_any hm (wpAny_of_C _ _ _ _ (by
    have := tree_sound (S := S) (md := .any) (l := l) _ hs hQ t l.toArray.size (Array.replicate l.toArray.size false) a { w with drawn := w.drawn + 1 } (by intro j hj; exfalso; rw [Array.getD_eq_getD_getElem?, Array.getElem?_replicate] at hj; split at hj <;> simp at hj) (by simpa using hok) (by simp [hl]) (fun _ => hS _ rfl ⟨rfl, rfl, rfl, Nat.le_refl _, fun _ _ => rfl⟩) (h _ rfl ⟨rfl, rfl, rfl, Nat.le_refl _, fun _ _ => rfl⟩)
    exact this))

theorem tree_still {t : OTree} {o : Oper} {v : Value} {a : Act} {w : World} (hw : Region.wanted o (yielded ops a.tmps) = true) (hy : ∀ w', S w' → (execOp a.eval o).run P w' = .ok (.value v) w')
    (h : wpTree P ops Q S t (a.put o.dst v) w) : wpTree P ops Q S (.op 0 o t) a w := ⟨v, .inl ⟨hw, fun w' hS => by unfold Oper.quietAt; rw [hy w' hS]; exact ⟨rfl, rfl⟩⟩, h⟩
theorem tree_skip {t : OTree} {o : Oper} {a : Act} {w : World} (hw : Region.wanted o (yielded ops a.tmps) = false)
    (h : wpTree P ops Q S t (a.put o.dst undef) w) : wpTree P ops Q S (.op 0 o t) a w := ⟨undef, .inr ⟨hw, rfl⟩, h⟩
theorem tree_do {t : OTree} {o : Oper} {a : Act} {w : World}
    (h : wpList P ops (Exit.then (fun a' w' => S w' ∧ wpTree P ops Q S t a' w') Q) [o] a w) : wpTree P ops Q S (.op 1 o t) a w := h
theorem tree_last {t : OTree} {o : Oper} {a : Act} {w : World}
    (h : wpList P ops (Exit.then (fun a' w' => wpTree P ops Q S t a' w') Q) [o] a w) : wpTree P ops Q S (.op 2 o t) a w := h
theorem tree_fork {t u : OTree} {o p : Oper} {a : Act} {w : World}
    (h : wpList P ops (Exit.then (fun a' w' => S w' ∧ wpTree P ops Q S t a' w') Q) [o] a w)
    (h' : wpList P ops (Exit.then (fun a' w' => S w' ∧ wpTree P ops Q S u a' w') Q) [p] a w) : wpTree P ops Q S (.fork o p t u) a w := ⟨h, h'⟩
theorem tree_nil {a : Act} {w : World} (h : Q .normal a w) : wpTree P ops Q S .nil a w := h
end
end Go.Proofs.Ytbacbgicfomkbaa
