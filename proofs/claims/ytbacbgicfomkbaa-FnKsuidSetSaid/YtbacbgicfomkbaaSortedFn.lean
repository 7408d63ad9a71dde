/- Contract of the reference's Sorted. -/
import Derived.Test.YtbacbgicfomkbaaListS
import Derived.Test.YtbacbgicfomkbaaAppK
namespace Go.Proofs.Ytbacbgicfomkbaa
open Go.RowKit
set_option linter.unusedVariables false
set_option linter.unusedSimpArgs false

theorem ins_lt {α : Type} (l : List α) (x : α) {m i : Nat} (hm : m ≤ l.length) (h : i < m) : (l.take m ++ x :: l.drop m)[i]? = l[i]? := by
  rw [List.getElem?_append_left (by simp; omega), List.getElem?_take, if_pos h]
theorem ins_eq {α : Type} (l : List α) (x : α) {m : Nat} (hm : m ≤ l.length) : (l.take m ++ x :: l.drop m)[m]? = some x := by
  rw [List.getElem?_append_right (by simp; omega), List.length_take, Nat.min_eq_left hm, Nat.sub_self]; rfl
theorem ins_gt {α : Type} (l : List α) (x : α) {m i : Nat} (hm : m ≤ l.length) (h : m ≤ i) : (l.take m ++ x :: l.drop m)[i + 1]? = l[i]? := by
  rw [List.getElem?_append_right (by simp; omega), List.length_take, Nat.min_eq_left hm, show i + 1 - m = (i - m) + 1 by omega, List.getElem?_cons_succ, List.getElem?_drop, show m + (i - m) = i by omega]
theorem getD_of_get {l : List (List UInt8)} {i : Nat} : l.getD i [] = (l[i]?).getD [] := by simp
theorem Elems.ins {w : World} {base t : Nat} {vals : List Value} {ls : List (List UInt8)} (h : Elems w base t vals ls) {m : Nat} (hm : m ≤ ls.length) {g cap : Nat} {more : List Value} {l : List UInt8} (hg : base ≤ g) (hl : l.length ≤ 9223372036854775807) (hB : Blk w g (bvs l ++ more) t) :
    Elems w base t (vals.take m ++ .slice (some ⟨g, 0, none⟩) l.length cap :: vals.drop m) (ls.take m ++ l :: ls.drop m) := by
  refine ⟨by have := h.1; simp; omega, fun i hi => ?_⟩
  have hv := h.1
  rcases Nat.lt_trichotomy i m with h1 | h1 | h1
  · rw [ins_lt _ _ (by omega) h1, getD_of_get, ins_lt _ _ hm h1, ← getD_of_get]
    exact h.2 i (by omega)
  · subst h1
    rw [ins_eq _ _ (by omega), getD_of_get, ins_eq _ _ hm]
    exact ⟨g, cap, more, rfl, hg, hl, hB⟩
  · obtain ⟨j, rfl⟩ : ∃ j, i = j + 1 := ⟨i - 1, by omega⟩
    rw [ins_gt _ _ (by omega) (by omega), getD_of_get, ins_gt _ _ hm (by omega), ← getD_of_get]
    refine h.2 j ?_
    simp at hi
    omega

section
variable {P : Program} {ops : Array Oper} {Q : Exit → Act → World → Prop} {S : World → Prop}
def tailOffQ (c k off : Nat) : Nat := if c = k then off else off + k
theorem tailOffQ_lt {c k : Nat} (h : k < c) : tailOffQ c k 0 = k := by unfold tailOffQ; rw [if_neg (by omega)]; omega
theorem plan_done {a : Act} {w : World} (h : Q .normal a w) : wpList P ops (Exit.then (fun a' w' => wpPlan P ops Q S [] a' w') Q) [] a w := h
/-- The tail of a slice: 'x[i:]', whatever room is left. -/
theorem still_slice_tail {o : Oper} {a : Act} {t e : TypeId} {x y : Operand} (ho : o.op = .slice t x (some y) none none) (hu : P.underlying t = some (.slice e)) (hs : (P.info? e).map (·.size) = some 1)
    {b off n c k : Nat} (hx : a.eval x = .slice (some ⟨b, off, none⟩) n c) {yi : Int} (hy : a.eval y = .int .i64 yi) (hyk : yi = (k : Int)) (hk : k ≤ n) (hc : n ≤ c) : ∀ w', S w' → (execOp a.eval o).run P w' = .ok (.value (.slice (some ⟨b, tailOffQ c k off, none⟩) (n - k) (c - k))) w' := by
  intro w' _
  subst hyk
  unfold tailOffQ
  cases hq : P.info? e with
  | none => simp [hq] at hs
  | some inf =>
    have hs1 : inf.size = 1 := by simpa [hq] using hs
    unfold execOp
    simp [ho, hx, hy, Instr.sliceAt, run_underlying hu, Instr.slice, Instr.sliceBounds, Instr.sliceBound, asIntOf, sizeOf, typeInfo, hq, Result.andThen, hk, hs1, Addr.add]
    split
    · rfl
    · by_cases h0 : k = 0
      · subst h0; simp
      · simp [h0]
end
/-- Room for one more made within a list: 'copy(out[m+1:], out[m:])'. -/
theorem wp_copy_shift {P : Program} {ops : Array Oper} {rest : List Oper} {o : Oper} {a : Act} {w : World} {Q : Exit → Act → World → Prop} (hgd : o.guard = none) {d s : Operand} {dT sT : TypeId}
    (ho : o.op = .call { callee := .builtin .copy, args := #[d, s], argTypes := #[dT, sT] }) {elem : TypeId} (hu : P.underlying dT = some (.slice elem)) (hsz : (P.info? elem).map (·.size) = some 1)
    {g k m od os dc sc dl sl : Nat} (hm : m ≤ k) (hod : m < k → od = m + 1) (hos : m < k → os = m) (hd : a.eval d = .slice (some ⟨g, od, none⟩) dl dc) (hs : a.eval s = .slice (some ⟨g, os, none⟩) sl sc) (edl : dl = k - m) (esl : sl = k + 1 - m)
    {vals more : List Value} {x : Value} {t : TypeId} (hvl : vals.length = k) (hg : Blk w g (vals ++ x :: more) t) (h1 : ∀ v ∈ vals, v.oneCell' = true)
    (h : ∀ w' y, Blk w' g (vals.take m ++ y :: vals.drop m ++ more) t → w.grownBy w' (some g) → wpList P ops Q rest (a.put o.dst (.int .i64 (k - m : Nat))) w') : wpList P ops Q (o :: rest) a w := by
  subst edl esl
  by_cases hmk : m = k
  · subst hmk
    rw [Nat.sub_self] at hd
    refine wpList_copy_nothing hgd d s dT sT ho elem hu hsz _ _ _ _ _ _ hd hs (by simp) ?_
    have := h w x (by rw [← hvl, List.take_length, List.drop_length]; simpa using hg) (World.grownBy.refl _ _)
    simpa [goInt] using this
  · have hlt : m < k := by omega
    obtain rfl := hod hlt
    obtain rfl := hos hlt
    have hdl : (vals.drop os).length = k - os := by rw [List.length_drop, hvl]
    refine wpList_copy_own hgd d s dT sT ho elem hu hsz g _ _ _ _ _ _ hd hs (vals ++ x :: more).toArray t hg (vals.drop os) (by rw [hdl]; exact (Nat.min_eq_right (by omega)).symm) ?_ (by rw [hdl]; simp; omega) (fun v hv => h1 v (List.mem_of_mem_drop hv)) ?_
    · intro j v hv
      rw [Addr.add_mid, hg.cell]
      rw [List.getElem?_drop] at hv
      rw [List.getElem?_append_left (by have := (List.getElem?_eq_some_iff.1 hv).1; exact this)]
      exact hv
    · have hvm : os < vals.length := by omega
      have e : ((vals ++ x :: more).toArray.toList.take (os + 1) ++ (vals.drop os ++ (vals ++ x :: more).toArray.toList.drop (os + 1 + (vals.drop os).length))).toArray = (vals.take os ++ vals[os] :: vals.drop os ++ more).toArray := by
        rw [hdl]
        congr 1
        have e1 : (vals ++ x :: more).take (os + 1) = vals.take os ++ [vals[os]] := by
          rw [List.take_append_of_le_length (by omega), List.take_succ_eq_append_getElem hvm]
        have e2 : (vals ++ x :: more).drop (os + 1 + (k - os)) = more := by
          rw [show os + 1 + (k - os) = vals.length + 1 by omega, ← List.drop_drop, List.drop_left]
          rfl
        show (vals ++ x :: more).take (os + 1) ++ (vals.drop os ++ (vals ++ x :: more).drop (os + 1 + (k - os))) = _
        rw [e1, e2]
        simp only [List.append_assoc, List.cons_append, List.nil_append]
      rw [e]
      have e3 : goInt (vals.drop os).length = .int .i64 (k - os : Nat) := by simp [goInt, hdl]
      rw [e3]
      exact h _ _ (setRow_heap w g _ _ t _ hg) ⟨rfl, rfl, rfl, by simp, fun k _ hk => setRow_other w g k _ (by simpa using hk)⟩

theorem compare_at {a1 a2 : Option Addr} {n1 n2 c1 c2 : Nat} (x y : List UInt8) {w : World} (h1 : Rd w a1 x) (h2 : Rd w a2 y) (e1 : x.length = n1) (e2 : y.length = n2) :
    Calls Try.prog 27 #[.slice a1 n1 c1, .slice a2 n2 c2] w fun e w' => e = .returned (.int .i64 (cmpL x y)) ∧ ∃ n, w' = w.drewN n := by
  subst e1 e2; exact compare_any a1 a2 x y c1 c2 w h1 h2
theorem infoSl2 : (Try.prog.info? 22).map (fun i => (i.zero, i.size, i.bytes)) = some (some (.slice none 0 0), 1, 24) := by kernel_rfl

theorem ins_pair {ss : List (List UInt8)} {X : List UInt8} {m k : Nat} (hs : ss.Pairwise leL) (hl : ss.length = k) (hm : m ≤ k) (hgt : ∀ i, m ≤ i → i < k → 0 < cmpL (ss.getD i []) X) (hle : m = 0 ∨ cmpL (ss.getD (m - 1) []) X ≤ 0) :
    (ss.take m ++ X :: ss.drop m).Pairwise leL := by
  have hXd : ∀ b ∈ ss.drop m, leL X b := by
    intro b hb
    obtain ⟨i, hi, rfl⟩ := List.getElem_of_mem hb
    rw [List.length_drop] at hi
    have := hgt (m + i) (by omega) (by omega)
    rw [List.getElem_drop]
    have e : ss.getD (m + i) [] = ss[m + i]'(by omega) := by simp [List.getD_eq_getElem?_getD, show m + i < ss.length by omega]
    rw [e] at this
    unfold leL
    rw [cmpL_swap]
    omega
  have hdX : ∀ a ∈ ss.take m, leL a X := by
    intro a ha
    rcases hle with rfl | hle
    · simp at ha
    · obtain ⟨i, hi, rfl⟩ := List.getElem_of_mem ha
      rw [List.length_take] at hi
      have h1 : m - 1 < ss.length := by omega
      have e : ss.getD (m - 1) [] = ss[m - 1]'h1 := by simp [List.getD_eq_getElem?_getD, h1]
      rw [e] at hle
      rw [List.getElem_take]
      by_cases hi2 : i = m - 1
      · subst hi2; exact hle
      · exact leL_trans (List.pairwise_iff_getElem.1 hs i (m - 1) (by omega) h1 (by omega)) hle
  rw [List.pairwise_append]
  refine ⟨hs.sublist (List.take_sublist _ _), List.pairwise_cons.2 ⟨hXd, hs.sublist (List.drop_sublist _ _)⟩, ?_⟩
  intro a ha b hb
  rcases List.mem_cons.1 hb with rfl | hb
  · exact hdX a ha
  · exact leL_trans (hdX a ha) (hXd b hb)
theorem ins_perm2 {ss ks : List (List UInt8)} {X : List UInt8} (m : Nat) (h : ss.Perm ks) : (ss.take m ++ X :: ss.drop m).Perm (ks ++ [X]) := by
  refine List.perm_middle.trans ?_
  rw [List.take_append_drop]
  exact ((List.perm_append_comm (l₁ := [X]) (l₂ := ks)).symm.trans (by simp; exact h.symm)).symm
theorem ins_set {vals more : List Value} {m : Nat} (y v : Value) (hm : m ≤ vals.length) : (vals.take m ++ y :: vals.drop m ++ more).set m v = vals.take m ++ v :: vals.drop m ++ more := by
  have h1 : (vals.take m).length = m := by rw [List.length_take]; omega
  rw [List.append_assoc, List.set_append_right _ _ (by omega), h1, Nat.sub_self]
  simp
theorem ins_set' {vals more : List Value} {m : Nat} (y v : Value) (hm : m ≤ vals.length) : (vals.take m ++ y :: (vals.drop m ++ more)).set m v = vals.take m ++ v :: vals.drop m ++ more := by
  have := ins_set (more := more) y v hm
  rw [List.append_assoc] at this
  exact this
theorem ins_len {vals more : List Value} {m : Nat} (v : Value) : (vals.take m ++ v :: vals.drop m ++ more).length = (vals ++ [v] ++ more).length := by
  simp
  omega
theorem own_drew {w : World} {base e size : Nat} {v : Value} {n : Nat} {xs : List Value} (h : w.ownsRow base e size v n xs) (k : Nat) : (w.drewN k).ownsRow base e size v n xs := h
theorem Elems.drew {w : World} {base t : Nat} {vals : List Value} {ls : List (List UInt8)} (h : Elems w base t vals ls) (k : Nat) : Elems (w.drewN k) base t vals ls := h
theorem below_drewN2 {B : Nat} {w w' : World} (h : Below B w w') (n : Nat) : Below B w (w'.drewN n) := ⟨h.os, h.tape, h.output, h.size, h.block⟩

set_option maxRecDepth 100000 in
set_option maxHeartbeats 8000000 in
theorem sorted_ok (a0 : Option Addr) (ls : List (List UInt8)) (c0 n : Nat) (w : World) (h : RdL w a0 ls) (h20 : All20 ls) (hn : ls.length = n) (h12 : n ≤ 12) :
    Calls Try.prog 20 #[.slice a0 n c0] w fun e w' => ∃ a cap ss, e = .returned (.slice a n cap) ∧ ss.Perm ls ∧ ss.Pairwise leL ∧ RdL w' a ss ∧ Below w.heap.size w w' := by
  have hb := Below.refl w.heap.size w
  have H := Lib.hid h
  have HK : Hid (All20 ls ∧ ls.length = n) := ⟨h20, hn⟩
  clear h h20 hn
  go_enter Try.func20, Try.ntmps20
  go_wp2
  have hb1 := hb.alloc (Nat.le_refl _) (.cells #[] 22)
  have own1 : (w.alloc (.cells #[] 22)).ownsRow w.heap.size 22 1 (.slice (some ⟨w.heap.size, 0, none⟩) 0 0) ([] : List Value).length [] :=
    own_mk (more := []) (Blk.new w [] 22) (Nat.le_refl _) (Nat.le_refl _) (Nat.zero_le _) rfl rfl
  clear hb
  go_loopw [3, 10] (fun v i wr => ∃ (k : Nat) (vals : List Value) (ss : List (List UInt8)), k ≤ n ∧ i = .int .i64 k ∧ Hid (ss.Perm (ls.take k) ∧ ss.Pairwise leL) ∧ wr.ownsRow w.heap.size 22 1 v vals.length vals ∧ Elems wr w.heap.size 5 vals ss ∧ Below w.heap.size w wr) (fun _ i _ => n - (intOf i).toNat)
  case atStart => exact ⟨0, [], [], Nat.zero_le _, rfl, ⟨by simp, List.Pairwise.nil⟩, own1, Elems.nil _ _ _, hb1⟩
  case round =>
    obtain ⟨k, vals, ss, hk, rfl, HS, hown, hel, hbr⟩ := hrel
    clear own1 hb1
    have hsl : ss.length = k := by rw [HS.out.1.length_eq, List.length_take, HK.out.2]; omega
    obtain ⟨oa, oc, hv, hrd⟩ := hel.rdL hown (by omega)
    rw [hsl] at hv
    subst hv
    have HSL : Hid (ss.length = k ∧ vals.length = k) := ⟨hsl, by rw [hel.1, hsl]⟩
    have HS20 : Hid (All20 ss) := (fun x hx => HK.out.1 x (List.mem_of_mem_take (HS.out.1.mem_iff.1 hx)))
    clear hsl
    by_cases hlt : k < n
    · obtain ⟨b, off, rfl, ai, ci, hc, hr⟩ := H.out.at (i := k) (by rw [HK.out.2]; exact hlt)
      have hX20 : (ls.getD k []).length = 20 := HK.out.1.at (by rw [HK.out.2]; exact hlt)
      have hT : ls.take (k + 1) = ls.take k ++ [ls.getD k []] := by
        have hkl : k < ls.length := by rw [HK.out.2]; exact hlt
        rw [List.take_add_one]
        simp [hkl]
      rw [hX20] at hc
      generalize ls.getD k [] = X at *
      have HX := Lib.hid hX20
      have HT := Lib.hid hT
      have HR := Lib.hid hr
      have hcr := below_cell hc hbr
      clear hX20 hT hr hc
      go_wp2
      go_loopw [6] (fun mv wr2 => ∃ m : Nat, m ≤ k ∧ mv = .int .i64 m ∧ Hid (∀ i, m ≤ i → i < k → 0 < cmpL (ss.getD i []) X) ∧ Below wr.heap.size wr wr2) (fun mv _ => (intOf mv).toNat)
      case atStart => exact ⟨k, Nat.le_refl _, rfl, fun i h1 h2 => absurd h2 (by omega), Below.refl _ _⟩
      case round =>
        obtain ⟨m, hmk, rfl, hgt, hb2⟩ := hrel
        have hown2 := own_kept hown hb2
        have hel2 := hel.kept hb2
        have hbw2 := hbr.trans (hb2.mono hbr.size)
        have hrX := HR.out.kept hbw2
        by_cases hst : 0 < m ∧ 0 < cmpL (ss.getD (m - 1) []) X
        case pos =>
          obtain ⟨j, rfl⟩ : ∃ j, m = j + 1 := ⟨m - 1, by omega⟩
          rw [Nat.add_sub_cancel] at hst
          obtain ⟨-, hcp⟩ := hst
          obtain ⟨b', off', rfl, ai', ci', hc', hr'⟩ := (hrd.kept hb2).at (i := j) (by rw [HSL.out.1]; omega)
          have hY20 : (ss.getD j []).length = 20 := HS20.out.at (by rw [HSL.out.1]; omega)
          rw [hY20] at hc'
          generalize hYd : ss.getD j [] = Y at *
          have HY := Lib.hid hY20
          have HCP := Lib.hid hcp
          have HYD := Lib.hid hYd
          have hcp2 : decide (0 < cmpL Y X) = true := by simpa using hcp
          have e1 : (((j + 1 : Nat) : Int) - 1) = (j : Int) := by omega
          clear hel hown hY20 hYd hcp
          go_wp2_with (go_at_call 27; refine (compare_at Y X hr' hrX HY.out HX.out).mono ?_; rintro e w' ⟨rfl, n, rfl⟩)
          go_roundw
          case rel => exact ⟨j, by omega, by go_num, fun i h1 h2 => by
            by_cases hij : i = j
            · rw [hij, HYD.out]; exact HCP.out
            · exact hgt.out i (by omega) h2, below_drewN2 hb2 _⟩
          case measure => simp [intOf]
        · have HLE : Hid (m = 0 ∨ cmpL (ss.getD (m - 1) []) X ≤ 0) := by
            by_cases h0 : m = 0
            · exact .inl h0
            · exact .inr (by omega)
          have hb2' := hb2
          clear hel hown hb2 hcr hst
          have hvk : vals.length + 1 ≤ 100 := by have := HSL.out.2; omega
          by_cases hm0 : 0 < m
          case neg =>
            go_wp2_with (at_builtin; refine wp_append_one rfl rfl Try.underlying23 infoSl2 rfl rfl rfl rfl rfl hown2 (by omega) (by omega) hbw2.size ?_)
            intro v3 w3 hown3 hg3
            have hel3 := hel2.grown hown2 (by decide) hg3
            have hbw3 := hbw2.grown hg3 hbw2.size (fun j hj => (hown2.lt j hj).1)
            clear hown2 hel2 hg3 hrX
            obtain ⟨g, cap, more, rfl, hg1, hg2, hg3, hg4, hg5⟩ := own_blk hown3 (by simp)
            have hvl := HSL.out.2
            simp only [List.length_append, List.length_cons, List.length_nil, Nat.zero_add, hvl] at hg3
            rw [List.append_assoc] at hg2
            try rw [List.length_append, List.length_singleton]
            rw [hvl]
            clear hvl
            clear hown3 hvk hbw2
            have HL5 : Hid ((vals ++ [Value.slice none 0 0] ++ more).length = cap * 1) := hg5
            clear hg5
            have hv1 : ∀ v ∈ vals, v.oneCell' = true := by
              intro v hv
              obtain ⟨i, hi, rfl⟩ := List.getElem_of_mem hv
              obtain ⟨_, _, _, e, _⟩ := hel3.2 i (by rw [← hel3.1]; exact hi)
              rw [List.getElem?_eq_getElem hi] at e
              rw [Option.some.inj e]
              rfl
            have HV1 := Lib.hid hv1
            clear hv1
            have HW : Hid (IntKind.i64.wrap ((m : Int) + 1) = ((m + 1 : Nat) : Int)) := Lib.hid (by show _ = _; rw [IntKind.wrap_i64]; omega)
            go_wp2_with fail
            refine region_plan (fun w' => Below w3.heap.size w3 w') [(0, 0), (1, 0), (2, 0), (3, 0), (4, 0), (5, 0), (6, 0), (7, 2)] rfl (by kernel_rfl) (by kernel_rfl) rfl (by intro c a d v w h; cases d <;> exact h) (fun _ _ h => h) ?_
            intro w4 hpW hb4
            clear hpW
            simp only [planOps, List.filterMap_cons, List.filterMap_nil, List.getElem?_cons_succ, List.getElem?_cons_zero, Option.map_some]
            repeat (first | (refine plan_still rfl (still_slice_tail (k := m + 1) rfl Try.underlying23 (by kernel_rfl) rfl rfl HW.out (by omega) (by omega)) ?_) | (refine plan_still rfl (still_slice_tail (k := m) rfl Try.underlying23 (by kernel_rfl) rfl rfl rfl (by omega) (by omega)) ?_) | (refine plan_skip rfl ?_) | (refine plan_still (v := ?_) rfl (fun w' hS => ?_) ?_; rotate_left; (focus (go_simp; first | done | with_reducible rfl))); simp only [Act.put, List.setIfInBounds_toArray, List.set_cons_zero, List.set_cons_succ])
            have q4 := hg2.kept hb4
            have hel4 := hel3.kept hb4
            have hbw4 := hbw3.trans (hb4.mono hbw3.size)
            clear hg2 hel3 hb4 hbw3
            refine plan_last ?_
            refine wp_copy_shift (m := m) (k := k) rfl rfl Try.underlying23 (by kernel_rfl) hmk (fun h => tailOffQ_lt (by omega)) (fun h => tailOffQ_lt (by omega)) rfl rfl (by omega) (by omega) HSL.out.2 (by simpa using q4) HV1.out ?_
            intro w5 y b5 g5
            have hel5 := hel4.grownB q4 (by decide) g5
            have hbw5 := hbw4.grown g5 hbw4.size (by rintro j ⟨⟩; exact hg1)
            clear q4 hel4 g5 hbw4
            have hgl5 := b5.lt
            have hbw5' := hbw5.alloc hbw5.size (.cells #[] 5)
            have o5 := OwnB.empty w5 w.heap.size 5 hbw5.size
            have r5 := HR.out.kept hbw5'
            refine plan_done ?_
            go_wp2_with (at_builtin; refine wp_append_rd rfl rfl Try.underlying22 info5 rfl rfl rfl o5 r5 HX.out (by rw [HX.out]; decide) hbw5'.size ?_)
            intro v6 w6 o6 g6
            have hn6 := below_grown (grown_new (World.grownBy_alloc w5 (.cells #[] 5) none) g6 (Nat.le_refl _))
            have b6 := b5.kept hn6
            have hel6 := hel5.kept hn6
            have hbw6 := hbw5.trans (hn6.mono hbw5.size)
            obtain ⟨ga, ca, mo, rfl, q1, q2, q3, -, -⟩ := own_blk o6 (by rw [HX.out]; decide)
            have hgne : ga ≠ g := by
              intro h
              subst h
              unfold Blk at q2 b6
              rw [q2] at b6
              simp only [Option.some.injEq, Obj.cells.injEq] at b6
              exact absurd b6.2.1 (by decide)
            rw [HX.out]
            have hfit : m < (vals.take m ++ y :: vals.drop m ++ more).length := by
              have := HSL.out.2
              simp
              omega
            clear o6 g6 b5 hel5 hn6 hbw5 hbw5' o5 r5
            go_wp2_with (refine wp_store_cell rfl rfl (by kernel_rfl) rfl rfl rfl b6 hfit ?_)
            intro w7 b7 g7 s7
            rw [ins_set' y _ (by rw [HSL.out.2]; exact hmk)] at b7
            have q7 := q2.grown g7 (by simp; exact hgne)
            have hel7 := (hel6.grownB b6 (by decide) g7).ins (m := m) (cap := ca) (by rw [HSL.out.1]; exact hmk) q1 (by rw [HX.out]; decide) q7
            rw [HX.out] at hel7
            have hbw7 := hbw6.grown g7 hbw6.size (by rintro j ⟨⟩; exact hg1)
            have hl7 : (vals.take m ++ Value.slice (some ⟨ga, 0, none⟩) 20 ca :: vals.drop m).length = k + 1 := by
              have := HSL.out.2
              simp
              omega
            have own7 : w7.ownsRow w.heap.size 22 1 (.slice (some ⟨g, 0, none⟩) (k + 1) cap) (k + 1) (vals.take m ++ Value.slice (some ⟨ga, 0, none⟩) 20 ca :: vals.drop m) :=
              own_mk (more := more) b7 hg1 hg3 hg4 (by rw [ins_len]; have := HL5.out; simp at this ⊢; omega) (by rw [hl7, Nat.mul_one])
            have HOWN := Lib.hid own7
            have HL7 := Lib.hid hl7
            clear own7 hl7 b7 q7 q2 hel6 b6 g7 s7 hbw6 hfit
            go_wp2
            go_roundw
            case rel => exact ⟨k + 1, _, _, by omega, by go_num, ⟨by rw [HT.out]; exact ins_perm2 m HS.out.1, ins_pair HS.out.2 HSL.out.1 hmk hgt.out HLE.out⟩, by rw [HL7.out]; exact HOWN.out, hel7, hbw7⟩
            case measure => simp [intOf]; omega
          case pos =>
            have hh := HLE.out.resolve_left (by omega)
            obtain ⟨j, hj⟩ : ∃ j, m = j + 1 := ⟨m - 1, by omega⟩
            rw [show m - 1 = j by omega] at hh
            obtain ⟨b', off', rfl, ai', ci', hc', hr'⟩ := (hrd.kept hb2').at (i := j) (by rw [HSL.out.1]; omega)
            have hY20 : (ss.getD j []).length = 20 := HS20.out.at (by rw [HSL.out.1]; omega)
            rw [hY20] at hc'
            generalize hYd : ss.getD j [] = Y at *
            have HY := Lib.hid hY20
            have hcp2 : decide (0 < cmpL Y X) = false := by simpa using hh
            have e1 : (m : Int) - 1 = (j : Int) := by omega
            have hjk : j < k := by omega
            have h1j : (1 : Int) ≤ (m : Int) := by omega
            clear hY20 hYd hh hj
            go_wp2_with (first | (go_at_call 27; refine (compare_at Y X hr' hrX HY.out HX.out).mono ?_; rintro e w' ⟨rfl, nq, rfl⟩; clear hc'; have hown2 := own_drew hown2 nq; have hel2 := hel2.drew nq; have hbw2 := below_drewN2 hbw2 nq) | (at_builtin; refine wp_append_one rfl rfl Try.underlying23 infoSl2 rfl rfl rfl rfl rfl hown2 (by omega) (by omega) hbw2.size ?_))
            intro v3 w3 hown3 hg3
            have hel3 := hel2.grown hown2 (by decide) hg3
            have hbw3 := hbw2.grown hg3 hbw2.size (fun j hj => (hown2.lt j hj).1)
            clear hown2 hel2 hg3 hrX
            obtain ⟨g, cap, more, rfl, hg1, hg2, hg3, hg4, hg5⟩ := own_blk hown3 (by simp)
            have hvl := HSL.out.2
            simp only [List.length_append, List.length_cons, List.length_nil, Nat.zero_add, hvl] at hg3
            rw [List.append_assoc] at hg2
            try rw [List.length_append, List.length_singleton]
            rw [hvl]
            clear hvl
            clear hown3 hvk hbw2
            have HL5 : Hid ((vals ++ [Value.slice none 0 0] ++ more).length = cap * 1) := hg5
            clear hg5
            have hv1 : ∀ v ∈ vals, v.oneCell' = true := by
              intro v hv
              obtain ⟨i, hi, rfl⟩ := List.getElem_of_mem hv
              obtain ⟨_, _, _, e, _⟩ := hel3.2 i (by rw [← hel3.1]; exact hi)
              rw [List.getElem?_eq_getElem hi] at e
              rw [Option.some.inj e]
              rfl
            have HV1 := Lib.hid hv1
            clear hv1
            have HW : Hid (IntKind.i64.wrap ((m : Int) + 1) = ((m + 1 : Nat) : Int)) := Lib.hid (by show _ = _; rw [IntKind.wrap_i64]; omega)
            go_wp2_with fail
            refine region_plan (fun w' => Below w3.heap.size w3 w') [(0, 0), (1, 0), (2, 0), (3, 0), (4, 0), (5, 0), (6, 0), (7, 2)] rfl (by kernel_rfl) (by kernel_rfl) rfl (by intro c a d v w h; cases d <;> exact h) (fun _ _ h => h) ?_
            intro w4 hpW hb4
            clear hpW
            simp only [planOps, List.filterMap_cons, List.filterMap_nil, List.getElem?_cons_succ, List.getElem?_cons_zero, Option.map_some]
            repeat (first | (refine plan_still rfl (still_slice_tail (k := m + 1) rfl Try.underlying23 (by kernel_rfl) rfl rfl HW.out (by omega) (by omega)) ?_) | (refine plan_still rfl (still_slice_tail (k := m) rfl Try.underlying23 (by kernel_rfl) rfl rfl rfl (by omega) (by omega)) ?_) | (refine plan_skip rfl ?_) | (refine plan_still (v := ?_) rfl (fun w' hS => ?_) ?_; rotate_left; (focus (go_simp; first | done | with_reducible rfl))); simp only [Act.put, List.setIfInBounds_toArray, List.set_cons_zero, List.set_cons_succ])
            have q4 := hg2.kept hb4
            have hel4 := hel3.kept hb4
            have hbw4 := hbw3.trans (hb4.mono hbw3.size)
            clear hg2 hel3 hb4 hbw3
            refine plan_last ?_
            refine wp_copy_shift (m := m) (k := k) rfl rfl Try.underlying23 (by kernel_rfl) hmk (fun h => tailOffQ_lt (by omega)) (fun h => tailOffQ_lt (by omega)) rfl rfl (by omega) (by omega) HSL.out.2 (by simpa using q4) HV1.out ?_
            intro w5 y b5 g5
            have hel5 := hel4.grownB q4 (by decide) g5
            have hbw5 := hbw4.grown g5 hbw4.size (by rintro j ⟨⟩; exact hg1)
            clear q4 hel4 g5 hbw4
            have hgl5 := b5.lt
            have hbw5' := hbw5.alloc hbw5.size (.cells #[] 5)
            have o5 := OwnB.empty w5 w.heap.size 5 hbw5.size
            have r5 := HR.out.kept hbw5'
            refine plan_done ?_
            go_wp2_with (at_builtin; refine wp_append_rd rfl rfl Try.underlying22 info5 rfl rfl rfl o5 r5 HX.out (by rw [HX.out]; decide) hbw5'.size ?_)
            intro v6 w6 o6 g6
            have hn6 := below_grown (grown_new (World.grownBy_alloc w5 (.cells #[] 5) none) g6 (Nat.le_refl _))
            have b6 := b5.kept hn6
            have hel6 := hel5.kept hn6
            have hbw6 := hbw5.trans (hn6.mono hbw5.size)
            obtain ⟨ga, ca, mo, rfl, q1, q2, q3, -, -⟩ := own_blk o6 (by rw [HX.out]; decide)
            have hgne : ga ≠ g := by
              intro h
              subst h
              unfold Blk at q2 b6
              rw [q2] at b6
              simp only [Option.some.injEq, Obj.cells.injEq] at b6
              exact absurd b6.2.1 (by decide)
            rw [HX.out]
            have hfit : m < (vals.take m ++ y :: vals.drop m ++ more).length := by
              have := HSL.out.2
              simp
              omega
            clear o6 g6 b5 hel5 hn6 hbw5 hbw5' o5 r5
            go_wp2_with (refine wp_store_cell rfl rfl (by kernel_rfl) rfl rfl rfl b6 hfit ?_)
            intro w7 b7 g7 s7
            rw [ins_set' y _ (by rw [HSL.out.2]; exact hmk)] at b7
            have q7 := q2.grown g7 (by simp; exact hgne)
            have hel7 := (hel6.grownB b6 (by decide) g7).ins (m := m) (cap := ca) (by rw [HSL.out.1]; exact hmk) q1 (by rw [HX.out]; decide) q7
            rw [HX.out] at hel7
            have hbw7 := hbw6.grown g7 hbw6.size (by rintro j ⟨⟩; exact hg1)
            have hl7 : (vals.take m ++ Value.slice (some ⟨ga, 0, none⟩) 20 ca :: vals.drop m).length = k + 1 := by
              have := HSL.out.2
              simp
              omega
            have own7 : w7.ownsRow w.heap.size 22 1 (.slice (some ⟨g, 0, none⟩) (k + 1) cap) (k + 1) (vals.take m ++ Value.slice (some ⟨ga, 0, none⟩) 20 ca :: vals.drop m) :=
              own_mk (more := more) b7 hg1 hg3 hg4 (by rw [ins_len]; have := HL5.out; simp at this ⊢; omega) (by rw [hl7, Nat.mul_one])
            have HOWN := Lib.hid own7
            have HL7 := Lib.hid hl7
            clear own7 hl7 b7 q7 q2 hel6 b6 g7 s7 hbw6 hfit
            go_wp2
            go_roundw
            case rel => exact ⟨k + 1, _, _, by omega, by go_num, ⟨by rw [HT.out]; exact ins_perm2 m HS.out.1, ins_pair HS.out.2 HSL.out.1 hmk hgt.out HLE.out⟩, by rw [HL7.out]; exact HOWN.out, hel7, hbw7⟩
            case measure => simp [intOf]; omega
    · have hkn : n = k := by omega
      subst hkn
      have ht : ls.take n = ls := List.take_of_length_le (by rw [HK.out.2]; exact Nat.le_refl _)
      have HT := Lib.hid ht
      clear ht
      go_wp2
      go_ret
      exact ⟨_, _, ss, rfl, by have := HS.out.1; rwa [HT.out] at this, HS.out.2, hrd, hbr⟩
end Go.Proofs.Ytbacbgicfomkbaa
