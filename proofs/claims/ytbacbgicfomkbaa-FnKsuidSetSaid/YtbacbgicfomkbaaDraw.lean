/- A region that draws its order, walked by a plan: what only reads is taken as soon as it may come up, in whatever world that meets S; of the rest never two may come up at once. -/
import Derived.Test.YtbacbgicfomkbaaLaws
import Derived.OrdersHeld
import Derived.Deep.Quiet
namespace Go.Proofs.Ytbacbgicfomkbaa
open Go.RowKit
section
variable {P : Program} {ops : Array Oper} {Q : Exit → Act → World → Prop} {md : Region.Mode} {S : World → Prop} {nd : Nat → Bool}

/-- In state 'a', in every world that meets S, operation 'o' leaves 'v' in its temporary, and the very world that it got: a call that only reads too. -/
def YieldsC (P : Program) (ops : Array Oper) (S : World → Prop) (o : Oper) (v : Value) (a : Act) : Prop :=
  (Region.wanted o (yielded ops a.tmps) = true ∧ ∀ w, S w → o.quietAt P a (fun w' => w' = w) w v) ∨ (Region.wanted o (yielded ops a.tmps) = false ∧ v = undef)
theorem YieldsC.of_same {o : Oper} {v : Value} {a a' : Act} (hy : YieldsC P ops S o v a) (he : execOp a'.eval o = execOp a.eval o)
    (hw : Region.wanted o (yielded ops a'.tmps) = Region.wanted o (yielded ops a.tmps)) : YieldsC P ops S o v a' := by
  unfold YieldsC Oper.quietAt at *
  rw [he, hw]
  exact hy
theorem YieldsC.wpOp {i : Nat} {o : Oper} {v : Value} {a : Act} (hi : ops[i]? = some o) (hy : YieldsC P ops S o v a)
    {K : Act → World → Prop} {w : World} (hS : S w) (h : K (a.put o.dst v) w) : wpOp P ops Q i K a w := by
  unfold Go.wpOp
  simp only [hi]
  rcases hy with ⟨hw, hv⟩ | ⟨hw, rfl⟩
  · simp only [hw, if_true]
    refine .inl ?_
    have h3 := hv w hS
    unfold Oper.quietAt at h3
    unfold Oper.wp
    generalize (execOp a.eval o).run P w = r at *
    cases r with
    | ok n w' =>
      cases n <;> simp only [Oper.quietUpon] at h3 <;> simp only [Oper.upon]
      case value u =>
        obtain ⟨e1, e2⟩ := h3
        rw [e1, e2]
        exact h
      case skip =>
        obtain ⟨e1, e2⟩ := h3
        rw [e1, ← e2]
        exact h
      case enter f args =>
        obtain ⟨e1, hc⟩ := h3
        rw [e1]
        exact hc.mono fun e w'' ⟨he, hw''⟩ => by subst he; rw [hw'']; exact h
    | halt x w' => simp only [Oper.quietUpon] at h3
  · simp only [hw, Bool.false_eq_true, if_false]; exact h
theorem wpOp_putC {j : Nat} {oi oj : Oper} {v : Value} (hj : ops[j]? = some oj) (hap : oi.apart ops oj = true)
    (hsi : ∀ cs b, oi.op ≠ .select cs b) (hsj : ∀ cs b, oj.op ≠ .select cs b)
    (hQ : ∀ c a w, Q (.panic c) (a.put oi.dst v) w → Q (.panic c) a w) {K : Act → World → Prop} {a : Act} {w : World}
    (hy : YieldsC P ops S oi v a) (h : wpOp P ops Q j K (a.put oi.dst v) w) :
    wpOp P ops Q j (fun a' w' => YieldsC P ops S oi v a' ∧ K (a'.put oi.dst v) w') a w := by
  obtain ⟨h1, h2, h3⟩ := Oper.apart_spec hap
  have keep : ∀ (a : Act), YieldsC P ops S oi v a → ∀ u, YieldsC P ops S oi v (a.put oj.dst u) := fun a hy u =>
    hy.of_same (execOp_put oi hsi a oj.dst u h3) (wanted_put oi a oj.dst u h3)
  have keepD : ∀ d, YieldsC P ops S oi v { a with defers := d :: a.defers } := fun d => hy.of_same rfl rfl
  unfold wpOp at *
  simp only [hj] at *
  rw [wanted_put oj a oi.dst v h1] at h
  split
  · rename_i hw
    simp only [hw, if_true] at h
    rcases h with h | ⟨hasks, hlets⟩
    case inr => exact .inr ⟨by unfold Oper.asks at *; rw [execOp_put oj hsj a oi.dst v h1] at hasks; exact hasks, hlets⟩
    refine .inl ?_
    unfold Oper.wp at *
    rw [execOp_put oj hsj a oi.dst v h1] at h
    generalize (execOp a.eval oj).run P w = r at *
    cases r with
    | ok n w' =>
      cases n <;> simp only [Oper.upon] at h ⊢
      case value u => exact ⟨keep a hy u, by rw [← Act.put_comm a v u h2]; exact h⟩
      case skip => exact ⟨keep a hy _, by rw [← Act.put_comm a v undef h2]; exact h⟩
      case defer d =>
        refine ⟨keep _ (keepD d) _, ?_⟩
        rw [← Act.put_comm _ v undef h2, ← Act.put_defers]
        exact h
      case enter f args =>
        refine Calls.mono h fun e w'' he => ?_
        cases e with
        | returned u => exact ⟨keep a hy u, by rw [← Act.put_comm a v u h2]; exact he⟩
        | panicked c => exact hQ _ _ _ he
        | outgrown => exact he
      case row row args => exact Rows.mono h fun u w'' he => ⟨keep a hy u, by rw [← Act.put_comm a v u h2]; exact he⟩
    | halt x w' =>
      cases x <;> simp only [Oper.upon] at h ⊢
      case panic u => exact hQ _ _ _ h
  · rename_i hw
    simp only [hw] at h
    exact ⟨keep a hy _, by rw [← Act.put_comm a v undef h2]; exact h⟩

/-- The numbers for which number j waits. -/
def predOf (md : Region.Mode) (ops : Array Oper) (j : Nat) : List Nat :=
  (((ops[j]?).map (·.after)).getD #[]).toList.filterMap fun e => if Region.binds md e then some e.on else none
/-- Does number j wait for number i, through few others at most? -/
def reach (md : Region.Mode) (ops : Array Oper) (i : Nat) : Nat → Nat → Bool
  | 0, _ => false
  | n + 1, j => (predOf md ops j).any fun k => k == i || reach md ops i n k
/-- May one of 'st' still be to come when number j is carried out? -/
def needs (md : Region.Mode) (ops : Array Oper) (st : List Nat) (j : Nat) : Bool := st.any fun i => i != j && !reach md ops i 7 j
/-- Nothing has been carried out ahead of what it waits for. -/
def Closed (md : Region.Mode) (ops : Array Oper) (listed : Array Bool) : Prop := ∀ j, listed.getD j false = true → ∀ k ∈ predOf md ops j, listed.getD k false = true

theorem pred_ready {j : Nat} {listed : Array Bool} (h : j ∈ Region.ready md ops listed) : ∀ k ∈ predOf md ops j, listed.getD k false = true := by
  obtain ⟨_, o, ho, hall⟩ := mem_ready.1 h
  intro k hk
  simp only [predOf, ho, Option.map_some, Option.getD_some, List.mem_filterMap] at hk
  obtain ⟨e, he, hb⟩ := hk
  split at hb
  · rename_i hb'
    obtain rfl := Option.some.inj hb
    exact hall e (by simpa using he) hb'
  · cases hb
theorem reach_listed {i : Nat} {listed : Array Bool} (hc : Closed md ops listed) : ∀ (n j : Nat), (∀ k ∈ predOf md ops j, listed.getD k false = true) → reach md ops i n j = true → listed.getD i false = true
  | 0, _, _, h => by cases h
  | n + 1, j, hp, h => by
    unfold reach at h
    obtain ⟨k, hk, hh⟩ := List.any_eq_true.1 h
    rcases (Bool.or_eq_true_iff.1 hh) with e | e
    · obtain rfl : k = i := by simpa using e
      exact hp k hk
    · exact reach_listed hc n k (hc k (hp k hk)) e
theorem closed_set {i : Nat} {listed : Array Bool} (hc : Closed md ops listed) (hr : i ∈ Region.ready md ops listed) : Closed md ops (listed.setIfInBounds i true) := by
  intro j hj k hk
  by_cases hji : j = i
  · subst hji
    exact getD_set_true (pred_ready hr k hk)
  · rw [getD_set_ne false (Ne.symm hji)] at hj
    exact getD_set_true (hc j hj k hk)
theorem not_listed {i : Nat} {listed : Array Bool} (hr : i ∈ Region.ready md ops listed) : listed.getD i false = false := by
  have h0 := (mem_ready.1 hr).1
  rcases Nat.lt_or_ge i listed.size with h' | h'
  · simp [h'] at h0 ⊢; exact h0
  · simp [Array.getElem?_eq_none h']

/-- Whatever order is picked, and S holds behind each operation for which 'nd' asks it. -/
def wpAnyC (P : Program) (md : Region.Mode) (ops : Array Oper) (Q : Exit → Act → World → Prop) (S : World → Prop) (nd : Nat → Bool) : Nat → Array Bool → Act → World → Prop
  | 0, listed, a, w => Region.ready md ops listed = [] ∧ Q .normal a w
  | fuel + 1, listed, a, w =>
    (Region.ready md ops listed = [] → Q .normal a w) ∧
    ∀ i ∈ Region.ready md ops listed, wpOp P ops Q i (fun a' w' => (nd i = true → S w') ∧ wpAnyC P md ops Q S nd fuel (listed.setIfInBounds i true) a' w') a w

theorem wpAny_of_C : ∀ (fuel : Nat) (listed : Array Bool) (a : Act) (w : World), wpAnyC P md ops Q S nd fuel listed a w → wpAny P md ops Q fuel listed a w
  | 0, _, _, _, h => h
  | fuel + 1, _, _, _, h => ⟨h.1, fun i hi => wpOp_mono (fun a' w' h' => wpAny_of_C fuel _ a' w' h'.2) (h.2 i hi)⟩

theorem wpAnyC_first {i : Nat} {oi : Oper} {v : Value} (hi : ops[i]? = some oi) (hsel : ∀ (j : Nat) (o : Oper) cs b, ops[j]? = some o → o.op ≠ .select cs b)
    (hQ : ∀ c a w, Q (.panic c) (a.put oi.dst v) w → Q (.panic c) a w)
    (hnd : ∀ j, j ≠ i → reach md ops i 7 j = false → nd j = true) :
    ∀ (fuel : Nat) (listed : Array Bool) (a : Act) (w : World), Closed md ops listed →
      (∀ j oj, ops[j]? = some oj → j ≠ i → listed.getD j true = false → (∀ e ∈ oj.after, Region.binds md e = true → e.on ≠ i) → oi.apart ops oj = true) →
      i ∈ Region.ready md ops listed → YieldsC P ops S oi v a → S w →
      wpAnyC P md ops Q S nd fuel (listed.setIfInBounds i true) (a.put oi.dst v) w → wpAnyC P md ops Q S nd (fuel + 1) listed a w := by
  intro fuel
  induction fuel with
  | zero =>
    intro listed a w _ _ hr hy hS H
    refine ⟨fun h => (by rw [h] at hr; cases hr), fun j hj => ?_⟩
    by_cases hji : j = i
    · subst hji; exact hy.wpOp hi hS ⟨fun _ => hS, H⟩
    · have := ready_mono hj hji
      rw [H.1] at this
      cases this
  | succ fuel ih =>
    intro listed a w hcl hfree hr hy hS H
    refine ⟨fun h => (by rw [h] at hr; cases hr), fun j hj => ?_⟩
    by_cases hji : j = i
    · subst hji; exact hy.wpOp hi hS ⟨fun _ => hS, H⟩
    · have h1 := H.2 j (ready_mono hj hji)
      obtain ⟨hjun, oj, hoj, hall⟩ := mem_ready.1 hj
      have hnot : ∀ e ∈ oj.after, Region.binds md e = true → e.on ≠ i := fun e he hb heq => by
        have h1 := hall e he hb
        have h0 := (mem_ready.1 hr).1
        rw [heq] at h1
        rcases Nat.lt_or_ge i listed.size with h' | h'
        · simp [h'] at h0 h1; rw [h0] at h1; cases h1
        · simp [Array.getElem?_eq_none h'] at h1
      have hndj := hnd j hji (by
        rw [Bool.eq_false_iff]
        intro hre
        have := reach_listed hcl 7 j (pred_ready hj) hre
        rw [not_listed hr] at this
        cases this)
      have h2 := wpOp_putC hoj (hfree j oj hoj hji hjun hnot) (fun cs b => hsel i oi cs b hi) (fun cs b => hsel j oj cs b hoj) hQ hy h1
      have hfree' : ∀ k ok, ops[k]? = some ok → k ≠ i → (listed.setIfInBounds j true).getD k true = false →
          (∀ e ∈ ok.after, Region.binds md e = true → e.on ≠ i) → oi.apart ops ok = true := fun k ok hk hki hun hno => by
        refine hfree k ok hk hki ?_ hno
        by_cases hjk : j = k
        · subst hjk; exact hjun
        · rw [getD_set_ne true hjk] at hun; exact hun
      refine wpOp_mono (fun a' w' h3 => ⟨h3.2.1, ih (listed.setIfInBounds j true) a' w' (closed_set hcl hj) hfree' (ready_mono hr (Ne.symm hji)) h3.1 (h3.2.1 hndj) ?_⟩) h2
      rw [Array.setIfInBounds_comm _ _ hji]
      exact h3.2.2

/-- A plan: each number, and how it is carried out: 0: for reading alone, as soon as it may come up; 1: the only one that may come up, and S holds behind it; 2: the only one that may come up, and nothing of kind 0 can be to come. -/
def planOk (md : Region.Mode) (ops : Array Oper) (st : List Nat) : List (Nat × Nat) → Array Bool → Bool
  | [], listed => (Region.ready md ops listed).isEmpty
  | (i, 0) :: rest, listed => st.contains i && Region.free md ops listed i && (Region.ready md ops listed).contains i && planOk md ops st rest (listed.setIfInBounds i true)
  | (i, 1) :: rest, listed => (Region.ready md ops listed == [i]) && planOk md ops st rest (listed.setIfInBounds i true)
  | (i, _) :: rest, listed => (Region.ready md ops listed == [i]) && !needs md ops st i && rest.all (·.2 != 0) && planOk md ops st rest (listed.setIfInBounds i true)

/-- The operations of a plan, in its order. -/
def planOps (l : List Oper) (plan : List (Nat × Nat)) : List (Nat × Oper) := plan.filterMap fun x => (l[x.1]?).map fun o => (x.2, o)

/-- The walk by a plan. -/
def wpPlan (P : Program) (ops : Array Oper) (Q : Exit → Act → World → Prop) (S : World → Prop) : List (Nat × Oper) → Act → World → Prop
  | [], a, w => Q .normal a w
  | (0, o) :: rest, a, w => ∃ v, YieldsC P ops S o v a ∧ wpPlan P ops Q S rest (a.put o.dst v) w
  | (1, o) :: rest, a, w => wpList P ops (Exit.then (fun a' w' => S w' ∧ wpPlan P ops Q S rest a' w') Q) [o] a w
  | (_, o) :: rest, a, w => wpList P ops (Exit.then (fun a' w' => wpPlan P ops Q S rest a' w') Q) [o] a w

theorem wp_then {o : Oper} {a : Act} {w : World} {K : Act → World → Prop} (h : o.wp P a w (wpList P ops (Exit.then K Q) []) (Exit.then K Q)) : o.wp P a w K Q := by
  unfold Oper.wp at *
  generalize (execOp a.eval o).run P w = r at *
  cases r with
  | ok n w' =>
    cases n <;> simp only [Oper.upon] at h ⊢ <;>
      first
        | exact h
        | exact Calls.mono h (fun e w'' he => by cases e <;> exact he)
        | exact Rows.mono h (fun _ _ he => he)
  | halt x w' => cases x <;> simp only [Oper.upon] at h ⊢ <;> exact h

theorem wpOp_of_list {i : Nat} {o : Oper} (hi : ops[i]? = some o) {a : Act} {w : World} {K : Act → World → Prop} (h : wpList P ops (Exit.then K Q) [o] a w) : wpOp P ops Q i K a w := by
  unfold wpOp
  simp only [hi]
  unfold wpList at h
  split
  · rename_i hw
    rw [if_pos hw] at h
    exact h.imp (fun h => wp_then h) id
  · rename_i hw
    rw [if_neg hw] at h
    exact h

theorem oper_of_ready {i : Nat} {l : List Oper} {listed : Array Bool} (h : i ∈ Region.ready md l.toArray listed) : ∃ o, l[i]? = some o ∧ l.toArray[i]? = some o := by
  obtain ⟨_, o, ho, _⟩ := mem_ready.1 h
  exact ⟨o, by simpa using ho, ho⟩

theorem plan_sound {l : List Oper} (st : List Nat) (hs : Region.noSelect l.toArray = true) (hQ : ∀ c a d v w, Q (.panic c) (a.put d v) w → Q (.panic c) a w) :
    ∀ (plan : List (Nat × Nat)) (fuel : Nat) (listed : Array Bool) (a : Act) (w : World), Closed md l.toArray listed → planOk md l.toArray st plan listed = true → plan.length ≤ fuel → (plan.any (·.2 == 0) = true → S w) →
      wpPlan P l.toArray Q S (planOps l plan) a w → wpAnyC P md l.toArray Q S (needs md l.toArray st) fuel listed a w
  | [], fuel, listed, a, w, _, hok, _, _, h => by
    have hr : Region.ready md l.toArray listed = [] := by simpa [planOk] using hok
    cases fuel with
    | zero => exact ⟨hr, h⟩
    | succ fuel => exact ⟨fun _ => h, fun i hi => by rw [hr] at hi; cases hi⟩
  | (i, k) :: rest, 0, _, _, _, _, _, hf, _, _ => by simp at hf
  | (i, 0) :: rest, fuel + 1, listed, a, w, hcl, hok, hf, hS, h => by
    simp only [planOk, Bool.and_eq_true] at hok
    obtain ⟨⟨⟨h1, h2⟩, h3⟩, h4⟩ := hok
    have hri : i ∈ Region.ready md l.toArray listed := by simpa using h3
    obtain ⟨o, hlo, ho⟩ := oper_of_ready hri
    simp only [planOps, List.filterMap_cons, hlo, Option.map_some] at h
    obtain ⟨v, hy, h⟩ := h
    refine wpAnyC_first ho (Region.noSelect_spec hs) (fun c a w => hQ c a _ _ w) ?_ fuel listed a w hcl (Region.free_spec ho h2) hri hy (hS (by simp)) ?_
    · intro j hji hno
      unfold needs
      rw [List.any_eq_true]
      refine ⟨i, by simpa using h1, ?_⟩
      simp only [hno, Bool.not_false, Bool.and_true, bne_iff_ne, ne_eq]
      exact fun e => hji e.symm
    · exact plan_sound st hs hQ rest fuel _ _ _ (closed_set hcl hri) h4 (by simp at hf; omega) (fun hr => hS (by simp)) h
  | (i, 1) :: rest, fuel + 1, listed, a, w, hcl, hok, hf, hS, h => by
    simp only [planOk, Bool.and_eq_true] at hok
    obtain ⟨h1, h3⟩ := hok
    have hr : Region.ready md l.toArray listed = [i] := by simpa using h1
    have hri : i ∈ Region.ready md l.toArray listed := by rw [hr]; exact List.mem_singleton.2 rfl
    obtain ⟨o, hlo, ho⟩ := oper_of_ready hri
    simp only [planOps, List.filterMap_cons, hlo, Option.map_some] at h
    refine ⟨fun h0 => (by rw [hr] at h0; cases h0), fun j hj => ?_⟩
    rw [hr] at hj
    obtain rfl : j = i := by simpa using hj
    exact wpOp_mono (fun a' w' h' => ⟨fun _ => h'.1, plan_sound st hs hQ rest fuel _ _ _ (closed_set hcl hri) h3 (by simp at hf; omega) (fun _ => h'.1) h'.2⟩) (wpOp_of_list ho h)
  | (i, k + 2) :: rest, fuel + 1, listed, a, w, hcl, hok, hf, hS, h => by
    simp only [planOk, Bool.and_eq_true] at hok
    obtain ⟨⟨⟨h1, h2⟩, h4⟩, h3⟩ := hok
    have hr : Region.ready md l.toArray listed = [i] := by simpa using h1
    have hri : i ∈ Region.ready md l.toArray listed := by rw [hr]; exact List.mem_singleton.2 rfl
    obtain ⟨o, hlo, ho⟩ := oper_of_ready hri
    simp only [planOps, List.filterMap_cons, hlo, Option.map_some] at h
    refine ⟨fun h0 => (by rw [hr] at h0; cases h0), fun j hj => ?_⟩
    rw [hr] at hj
    obtain rfl : j = i := by simpa using hj
    refine wpOp_mono (fun a' w' h' => ⟨fun hn => ?_, plan_sound st hs hQ rest fuel _ _ _ (closed_set hcl hri) h3 (by simp at hf; omega) (fun hr' => ?_) h'⟩) (wpOp_of_list ho h)
    · rw [hn] at h2; cases h2
    · exfalso
      rw [List.any_eq_true] at hr'
      obtain ⟨x, hx, hx2⟩ := hr'
      have := List.all_eq_true.1 h4 x hx
      simp only [beq_iff_eq] at hx2
      rw [hx2] at this
      cases this

/-- THE BEGINNING. -/
theorem region_plan {id : Nat} {l : List Oper} {a : Act} {w : World} (S : World → Prop) (plan : List (Nat × Nat)) (hm : P.follows .mixedOrders = true) (hs : Region.noSelect l.toArray = true)
    (hok : planOk .any l.toArray ((plan.filter (·.2 == 0)).map (·.1)) plan (Array.replicate l.length false) = true) (hl : plan.length = l.length)
    (hQ : ∀ c a d v w, Q (.panic c) (a.put d v) w → Q (.panic c) a w) (hS : ∀ w', w'.heap = w.heap → Below w.heap.size w w' → S w')
    (h : ∀ w', w'.heap = w.heap → Below w.heap.size w w' → wpPlan P l.toArray Q S (planOps l plan) a w') : (Code.region id l.toArray true).wp P Q a w :=
  wp_region_any hm (wpAny_of_C _ _ _ _ (by
    have := plan_sound (S := S) (md := .any) (l := l) _ hs hQ plan l.toArray.size (Array.replicate l.toArray.size false) a { w with drawn := w.drawn + 1 } (by intro j hj; exfalso; rw [Array.getD_eq_getD_getElem?, Array.getElem?_replicate] at hj; split at hj <;> simp at hj) (by simpa using hok) (by simp [hl]) (fun _ => hS _ rfl ⟨rfl, rfl, rfl, Nat.le_refl _, fun _ _ => rfl⟩) (h _ rfl ⟨rfl, rfl, rfl, Nat.le_refl _, fun _ _ => rfl⟩)
    exact this))

/-- An operation without its edges and its place. -/
def strip (o : Oper) : Oper := { o with after := #[], pos := "" }
def planOps2 (l : List Oper) (plan : List (Nat × Nat)) : List (Nat × Oper) := plan.filterMap fun x => (l[x.1]?).map fun o => (x.2, strip o)
theorem planOps2_eq (l : List Oper) : ∀ (plan : List (Nat × Nat)), planOps2 l plan = (planOps l plan).map fun x => (x.1, strip x.2)
  | [] => rfl
  | x :: plan => by
    have ih := planOps2_eq l plan
    unfold planOps2 planOps at *
    rw [List.filterMap_cons, List.filterMap_cons]
    cases l[x.1]? with
    | none => exact ih
    | some o => simp only [Option.map_some, List.map_cons]; rw [ih]
theorem wp_then' {o : Oper} {a : Act} {w : World} {K : Act → World → Prop} (h : o.wp P a w K Q) : o.wp P a w (wpList P ops (Exit.then K Q) []) (Exit.then K Q) := by
  unfold Oper.wp at *
  generalize (execOp a.eval o).run P w = r at *
  cases r with
  | ok n w' =>
    cases n <;> simp only [Oper.upon] at h ⊢ <;>
      first
        | exact h
        | exact Calls.mono h (fun e w'' he => by cases e <;> exact he)
        | exact Rows.mono h (fun _ _ he => he)
  | halt x w' => cases x <;> simp only [Oper.upon] at h ⊢ <;> exact h
theorem single_mono {o : Oper} {a : Act} {w : World} {K K' : Act → World → Prop} (hk : ∀ a w, K a w → K' a w) (h : wpList P ops (Exit.then K Q) [o] a w) : wpList P ops (Exit.then K' Q) [o] a w := by
  unfold wpList at *
  split
  · rename_i hw
    rw [if_pos hw] at h
    exact h.imp (fun h => wp_then' (Oper.wp_mono hk (wp_then h))) id
  · rename_i hw
    rw [if_neg hw] at h
    exact hk _ _ h
theorem wpPlan_strip : ∀ (pl : List (Nat × Oper)) (a : Act) (w : World), wpPlan P ops Q S (pl.map fun x => (x.1, strip x.2)) a w → wpPlan P ops Q S pl a w
  | [], _, _, h => h
  | (0, o) :: rest, a, w, h => by
    obtain ⟨v, hy, h⟩ := h
    exact ⟨v, hy, wpPlan_strip rest _ _ h⟩
  | (1, o) :: rest, a, w, h => by
    have h1 : wpList P ops (Exit.then (fun a' w' => S w' ∧ wpPlan P ops Q S (rest.map fun x => (x.1, strip x.2)) a' w') Q) [o] a w := h
    exact single_mono (fun a' w' hh => ⟨hh.1, wpPlan_strip rest _ _ hh.2⟩) h1
  | (k + 2, o) :: rest, a, w, h => by
    have h1 : wpList P ops (Exit.then (fun a' w' => wpPlan P ops Q S (rest.map fun x => (x.1, strip x.2)) a' w') Q) [o] a w := h
    exact single_mono (fun a' w' hh => wpPlan_strip rest _ _ hh) h1
/-- THE BEGINNING, for a region without guards: the region's own array, the edges and the places stand in no goal. -/
theorem region_plan2 {id : Nat} {l : List Oper} {a : Act} {w : World} (S : World → Prop) (plan : List (Nat × Nat)) (hm : P.follows .mixedOrders = true) (hs : Region.noSelect l.toArray = true)
    (hok : planOk .any l.toArray ((plan.filter (·.2 == 0)).map (·.1)) plan (Array.replicate l.length false) = true) (hl : plan.length = l.length)
    (hQ : ∀ c a d v w, Q (.panic c) (a.put d v) w → Q (.panic c) a w) (hS : ∀ w', w'.heap = w.heap → Below w.heap.size w w' → S w')
    (h : ∀ OPS w', w'.heap = w.heap → Below w.heap.size w w' → wpPlan P OPS Q S (planOps2 l plan) a w') : (Code.region id l.toArray true).wp P Q a w :=
  region_plan S plan hm hs hok hl hQ hS fun w' h1 h2 => wpPlan_strip _ _ _ (by rw [← planOps2_eq]; exact h _ w' h1 h2)

/-! The moves. -/
theorem plan_still {rest : List (Nat × Oper)} {o : Oper} {v : Value} {a : Act} {w : World} (hw : Region.wanted o (yielded ops a.tmps) = true) (hy : ∀ w', S w' → (execOp a.eval o).run P w' = .ok (.value v) w')
    (h : wpPlan P ops Q S rest (a.put o.dst v) w) : wpPlan P ops Q S ((0, o) :: rest) a w := ⟨v, .inl ⟨hw, fun w' hS => by unfold Oper.quietAt; rw [hy w' hS]; exact ⟨rfl, rfl⟩⟩, h⟩
/-- A call that only reads. -/
theorem plan_call {rest : List (Nat × Oper)} {o : Oper} {v : Value} {a : Act} {w : World} {f : FuncId} {args : Array Value} (hw : Region.wanted o (yielded ops a.tmps) = true) (hy : ∀ w', S w' → (execOp a.eval o).run P w' = .ok (.enter f args) w')
    (hc : ∀ w', S w' → Calls P f args w' fun e w'' => e = .returned v ∧ w'' = w') (h : wpPlan P ops Q S rest (a.put o.dst v) w) : wpPlan P ops Q S ((0, o) :: rest) a w :=
  ⟨v, .inl ⟨hw, fun w' hS => by unfold Oper.quietAt; rw [hy w' hS]; exact ⟨rfl, hc w' hS⟩⟩, h⟩
theorem plan_skip {rest : List (Nat × Oper)} {o : Oper} {a : Act} {w : World} (hw : Region.wanted o (yielded ops a.tmps) = false)
    (h : wpPlan P ops Q S rest (a.put o.dst undef) w) : wpPlan P ops Q S ((0, o) :: rest) a w := ⟨undef, .inr ⟨hw, rfl⟩, h⟩
theorem plan_move {rest : List (Nat × Oper)} {o : Oper} {x : Operand} {a : Act} {w : World} (hw : Region.wanted o (yielded ops a.tmps) = true) (hx : o.op = .move x)
    (h : wpPlan P ops Q S rest (a.put o.dst (a.eval x)) w) : wpPlan P ops Q S ((0, o) :: rest) a w := ⟨_, .inl ⟨hw, fun w' _ => by unfold Oper.quietAt execOp; simp only [hx]; exact ⟨rfl, rfl⟩⟩, h⟩
theorem plan_assign {rest : List (Nat × Oper)} {o : Oper} {x : Operand} {a : Act} {w : World} (hw : Region.wanted o (yielded ops a.tmps) = true) (hx : o.op = .assign x)
    (h : wpPlan P ops Q S rest (a.put o.dst (a.eval x)) w) : wpPlan P ops Q S ((0, o) :: rest) a w := ⟨_, .inl ⟨hw, fun w' _ => by unfold Oper.quietAt execOp; simp only [hx]; exact ⟨rfl, rfl⟩⟩, h⟩
theorem plan_do {rest : List (Nat × Oper)} {o : Oper} {a : Act} {w : World}
    (h : wpList P ops (Exit.then (fun a' w' => S w' ∧ wpPlan P ops Q S rest a' w') Q) [o] a w) : wpPlan P ops Q S ((1, o) :: rest) a w := h
theorem plan_last {rest : List (Nat × Oper)} {o : Oper} {a : Act} {w : World}
    (h : wpList P ops (Exit.then (fun a' w' => wpPlan P ops Q S rest a' w') Q) [o] a w) : wpPlan P ops Q S ((2, o) :: rest) a w := h
theorem plan_nil {a : Act} {w : World} (h : Q .normal a w) : wpPlan P ops Q S [] a w := h
/-- The place of an element of a slice. -/
theorem still_index {o : Oper} {a : Act} {t e : TypeId} {x y : Operand} (ho : o.op = .indexAddr t x y) (hu : P.underlying t = some (.slice e)) (hs : (P.info? e).map (·.size) = some 1)
    {b off n c : Nat} (hx : a.eval x = .slice (some ⟨b, off, none⟩) n c) (i : Nat) (hy : a.eval y = .int .i64 (i : Int)) (hi : i < n) : ∀ w', S w' → (execOp a.eval o).run P w' = .ok (.value (.pointer (some ⟨b, off + i, none⟩))) w' := by
  intro w' _
  cases hq : P.info? e with
  | none => simp [hq] at hs
  | some inf =>
    have hs1 : inf.size = 1 := by simpa [hq] using hs
    unfold execOp
    simp [ho, hx, hy, Instr.indexAt, run_underlying hu, asIntOf, sizeOf, typeInfo, hq, hs1, hi, Result.andThen, Addr.add]
/-- A part of a block, read in whatever world keeps it. -/
theorem still_part {ty n : Nat} {z : List Value} {o : Oper} {a : Act} (T : Arr P ty n z) {x : Operand} (ho : o.op = .load ty x) {g off : Nat} (hx : a.eval x = .pointer (some ⟨g, off, none⟩)) {t : TypeId} {cs mid : List Value}
    (hg : ∀ w', S w' → Blk w' g cs t) (hm : (cs.drop off).take n = mid) (hn : mid.length = n) : ∀ w', S w' → (execOp a.eval o).run P w' = .ok (.value (.agg mid.toArray)) w' := by
  intro w' hS
  obtain ⟨d, hu, hd⟩ := T.und
  have hr : w'.rangeAt g off mid := by
    intro j v hv
    rw [(hg w' hS).cell, ← hv, ← hm, List.getElem?_take, List.getElem?_drop, if_pos]
    have := (List.getElem?_eq_some_iff.1 hv).1
    omega
  unfold execOp
  simp only [ho, hx, Sem.run_bind, run_loadAt_mid w' g off ty mid d hr hu hd (by rw [T.size, hn]), Result.andThen_ok, Sem.run_pure]
/-- A whole block, read in whatever world keeps it. -/
theorem still_blk {ty n : Nat} {z : List Value} {o : Oper} {a : Act} (T : Arr P ty n z) {x : Operand} (ho : o.op = .load ty x) {g : Nat} (hx : a.eval x = .pointer (some ⟨g, 0, none⟩)) {t : TypeId} {cs : List Value}
    (hg : ∀ w', S w' → Blk w' g cs t) (hn : cs.length = n) : ∀ w', S w' → (execOp a.eval o).run P w' = .ok (.value (.agg cs.toArray)) w' :=
  still_part T ho hx hg (by rw [List.drop_zero]; exact List.take_of_length_le (by omega)) hn
end
end Go.Proofs.Ytbacbgicfomkbaa
