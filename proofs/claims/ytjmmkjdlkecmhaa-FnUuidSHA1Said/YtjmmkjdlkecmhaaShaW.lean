/- Contract of a SHA-1 digest's Write: the bytes are taken up behind those that it was given before. -/
import Derived.Test.YtjmmkjdlkecmhaaShaS
namespace Go.Proofs.Ytjmmkjdlkecmhaa
open Go.RowKit
set_option linter.unusedVariables false
set_option linter.unusedSimpArgs false
theorem do_fld48_1 {a : Act} {w : World} {o : Oper} {x : Operand} (ho : o.op = .fieldAddr 48 x 1) {g k : Nat} (hx : a.eval x = .pointer (some ⟨g, k, none⟩)) : (execOp a.eval o).run Try.prog w = .ok (.value (.pointer (some ⟨g, k + 5, none⟩))) w := by
  unfold execOp
  simp only [ho, hx]
  go_simp
theorem do_fld48_2 {a : Act} {w : World} {o : Oper} {x : Operand} (ho : o.op = .fieldAddr 48 x 2) {g k : Nat} (hx : a.eval x = .pointer (some ⟨g, k, none⟩)) : (execOp a.eval o).run Try.prog w = .ok (.value (.pointer (some ⟨g, k + 69, none⟩))) w := by
  unfold execOp
  simp only [ho, hx]
  go_simp
theorem do_fld48_3 {a : Act} {w : World} {o : Oper} {x : Operand} (ho : o.op = .fieldAddr 48 x 3) {g k : Nat} (hx : a.eval x = .pointer (some ⟨g, k, none⟩)) : (execOp a.eval o).run Try.prog w = .ok (.value (.pointer (some ⟨g, k + 70, none⟩))) w := by
  unfold execOp
  simp only [ho, hx]
  go_simp
/-- copy of a byte slice, nothing of it perhaps, into a part of a block. -/
theorem copy_some {P : Program} {ops : Array Oper} {rest : List Oper} {o : Oper} {a : Act} {w : World} {Q : Exit → Act → World → Prop} (hgd : o.guard = none) {d s : Operand} {dT sT : TypeId}
    (ho : o.op = .call { callee := .builtin .copy, args := #[d, s], argTypes := #[dT, sT] }) {elem : TypeId} (hu : P.underlying dT = some (.slice elem)) (hsz : (P.info? elem).map (·.size) = some 1)
    {g off : Nat} {sp : Option Addr} {n m dCap sCap k : Nat} (hd : a.eval d = .slice (some ⟨g, off, none⟩) m dCap) (hs : a.eval s = .slice sp n sCap)
    {cur : List Value} {t : TypeId} (hg : Blk w g cur t) (bs : List UInt8) (hr : Rd w sp bs) (hn : bs.length = n) (hk : Nat.min n m = k) (hfit : off + k ≤ cur.length)
    (h : ∀ w', Blk w' g (splice cur off (bvs (bs.take k))) t → w.grownBy w' (some g) → wpList P ops Q rest (a.put o.dst (.int .i64 k)) w') : wpList P ops Q (o :: rest) a w := by
  by_cases h0 : 0 < n
  · exact wp_copy_min hgd ho hu hsz hd hs hg bs hr hn hk hfit h0 fun w' h1 h2 _ => h w' h1 h2
  · obtain rfl : n = 0 := by omega
    obtain rfl : k = 0 := by rw [← hk]; exact Nat.zero_min _
    refine wpList_copy_nothing hgd d s dT sT ho elem hu hsz _ _ _ _ _ _ hd hs (by simp) ?_
    have e : splice cur off (bvs (bs.take 0)) = cur := by simp [splice, bvs]
    exact h w (by rw [e]; exact hg) (World.grownBy.refl _ _)
theorem blk_enter (u v : Value) (w : World) : (callFunc 17 #[u, v]).run Try.prog w = .ok (.enter 17 #[u, v]) w := by
  have h := Try.func17
  go_simp
theorem Dg.head {w : World} {g : Nat} {m : List UInt8} {len : Nat} {t : TypeId} (h : Dg w g m len t) : g < w.heap.size := by
  obtain ⟨x, _, _, hB⟩ := h
  exact hB.lt
theorem wrapI {n : Nat} (h : n < 9223372036854775808) : IntKind.i64.wrap (n : Int) = (n : Int) := by rw [IntKind.wrap_i64]; omega
theorem wrapU {n : Nat} (h : n < 9223372036854775808) : IntKind.u64.wrap (n : Int) = (n : Int) := by rw [IntKind.wrap_u64]; omega

set_option maxRecDepth 100000 in
theorem write_ok (g : Nat) (m : List UInt8) (t : TypeId) (ad : Option Addr) (p : List UInt8) (n c : Nat) (w : World) (hD : Dg w g m m.length t) (hr : Rd w ad p) (hl : p.length = n) (hc : n ≤ c) (hsz : m.length + n ≤ 1000000) (hg : ∀ q, ad = some q → 0 < n → q.spot = none ∧ q.block ≠ g) :
    Calls Try.prog 10 #[.pointer (some ⟨g, 0, none⟩), .slice ad n c] w fun e w' => e = .returned (.tuple #[.int .i64 (n : Int), .nilIface]) ∧ Dg w' g (m ++ p) (m ++ p).length t ∧ w.grownBy w' (some g) := by
  go_enter Try.func10, Try.ntmps10
  refine of_keeps 85 [(1, .slice ad n c), (0, .pointer (some ⟨g, 0, none⟩))] ⟨by kernel_rfl, rfl, fun x hx => by simp at hx; rcases hx with rfl | rfl <;> rfl⟩ fun a hk => ?_
  obtain ⟨x, hxl, hxt, hB⟩ := hD
  refine wp_seq_k fun K0 hK0 => ?_
  refine wp_region_lit ?_
  refine list_k rfl rfl hk (by decide) (by repeat' (first | exact far_nil _ | refine far_cons (by decide) ?_)) (v := .int .i64 0) (do_assign rfl rfl) ?_
  clear hk; intro a hk
  refine list_k rfl rfl hk (by decide) (by repeat' (first | exact far_nil _ | refine far_cons (by decide) ?_)) (v := .nilIface) (do_assign rfl rfl) ?_
  clear hk; intro a hk
  refine hK0 _ _ ?_
  clear hK0
  refine wp_seq_k fun K1 hK1 => ?_
  refine wp_region_lit ?_
  refine list_k rfl rfl hk (by decide) (by repeat' (first | exact far_nil _ | refine far_cons (by decide) ?_)) (v := .slice ad n c) (do_move rfl (hk.at (List.mem_cons_of_mem _ (List.mem_cons_of_mem _ (List.mem_cons_self ..))))) ?_
  clear hk; intro a hk
  refine list_k rfl rfl hk (by decide) (by repeat' (first | exact far_nil _ | refine far_cons (by decide) ?_)) (v := .int .i64 ((n : Nat) : Int)) (do_lenS rfl (hk.at (List.mem_cons_self ..)) Try.underlying22) ?_
  clear hk; intro a hk
  have hk2 : Keeps 85 ([(9, .int .i64 ((n : Nat) : Int)), (8, .slice ad n c), (5, .nilIface), (1, .slice ad n c), (0, .pointer (some ⟨g, 0, none⟩))]) a := by
    refine ⟨hk.1, hk.2.1, fun x hx => hk.2.2 x ?_⟩
    rcases List.mem_cons.1 hx with rfl | hx
    · exact List.mem_cons_self ..
    rcases List.mem_cons.1 hx with rfl | hx
    · exact List.mem_cons_of_mem _ (List.mem_cons_self ..)
    rcases List.mem_cons.1 hx with rfl | hx
    · exact List.mem_cons_of_mem _ (List.mem_cons_of_mem _ (List.mem_cons_self ..))
    rcases List.mem_cons.1 hx with rfl | hx
    · exact List.mem_cons_of_mem _ (List.mem_cons_of_mem _ (List.mem_cons_of_mem _ (List.mem_cons_of_mem _ (List.mem_cons_self ..))))
    rcases List.mem_cons.1 hx with rfl | hx
    · exact List.mem_cons_of_mem _ (List.mem_cons_of_mem _ (List.mem_cons_of_mem _ (List.mem_cons_of_mem _ (List.mem_cons_of_mem _ (List.mem_cons_self ..)))))
    cases hx
  clear hk
  have hk := hk2
  clear hk2
  refine list_k rfl rfl hk (by decide) (by repeat' (first | exact far_nil _ | refine far_cons (by decide) ?_)) (v := .int .i64 ((n : Nat) : Int)) (do_assign rfl (hk.at (List.mem_cons_self ..))) ?_
  clear hk; intro a hk
  refine hK1 _ _ ?_
  clear hK1
  have hk2 : Keeps 85 ([(4, .int .i64 ((n : Nat) : Int)), (5, .nilIface), (1, .slice ad n c), (0, .pointer (some ⟨g, 0, none⟩))]) a := by
    refine ⟨hk.1, hk.2.1, fun x hx => hk.2.2 x ?_⟩
    rcases List.mem_cons.1 hx with rfl | hx
    · exact List.mem_cons_self ..
    rcases List.mem_cons.1 hx with rfl | hx
    · exact List.mem_cons_of_mem _ (List.mem_cons_of_mem _ (List.mem_cons_of_mem _ (List.mem_cons_self ..)))
    rcases List.mem_cons.1 hx with rfl | hx
    · exact List.mem_cons_of_mem _ (List.mem_cons_of_mem _ (List.mem_cons_of_mem _ (List.mem_cons_of_mem _ (List.mem_cons_self ..))))
    rcases List.mem_cons.1 hx with rfl | hx
    · exact List.mem_cons_of_mem _ (List.mem_cons_of_mem _ (List.mem_cons_of_mem _ (List.mem_cons_of_mem _ (List.mem_cons_of_mem _ (List.mem_cons_self ..)))))
    cases hx
  clear hk
  have hk := hk2
  clear hk2
  refine wp_seq_k fun K2 hK2 => ?_
  refine wp_region_lit ?_
  refine list_k rfl rfl hk (by decide) (by repeat' (first | exact far_nil _ | refine far_cons (by decide) ?_)) (v := .pointer (some ⟨g, 0, none⟩)) (do_move rfl (hk.at (List.mem_cons_of_mem _ (List.mem_cons_of_mem _ (List.mem_cons_of_mem _ (List.mem_cons_self ..)))))) ?_
  clear hk; intro a hk
  refine list_k rfl rfl hk (by decide) (by repeat' (first | exact far_nil _ | refine far_cons (by decide) ?_)) (v := .pointer (some ⟨g, 0, none⟩)) (do_nilc rfl (hk.at (List.mem_cons_self ..))) ?_
  clear hk; intro a hk
  refine list_k rfl rfl hk (by decide) (by repeat' (first | exact far_nil _ | refine far_cons (by decide) ?_)) (v := .pointer (some ⟨g, 70, none⟩)) (do_fld48_3 rfl (hk.at (List.mem_cons_self ..))) ?_
  clear hk; intro a hk
  refine list_k rfl rfl hk (by decide) (by repeat' (first | exact far_nil _ | refine far_cons (by decide) ?_)) (v := .int .u64 ((m.length : Nat) : Int)) (do_ldB rfl Try.underlying46 rfl (hk.at (List.mem_cons_self ..)) hB (dcells_len hxl)) ?_
  clear hk; intro a hk
  refine list_k rfl rfl hk (by decide) (by repeat' (first | exact far_nil _ | refine far_cons (by decide) ?_)) (v := .int .i64 ((n : Nat) : Int)) (do_move rfl (hk.at (List.mem_cons_of_mem _ (List.mem_cons_of_mem _ (List.mem_cons_of_mem _ (List.mem_cons_of_mem _ (List.mem_cons_self ..))))))) ?_
  clear hk; intro a hk
  refine list_k rfl rfl hk (by decide) (by repeat' (first | exact far_nil _ | refine far_cons (by decide) ?_)) (v := .int .u64 ((n : Nat) : Int)) (do_cvtN rfl Try.underlying3 Try.underlying46 (hk.at (List.mem_cons_self ..)) (wrapU (by omega))) ?_
  clear hk; intro a hk
  refine list_k rfl rfl hk (by decide) (by repeat' (first | exact far_nil _ | refine far_cons (by decide) ?_)) (v := .int .u64 ((m.length + n : Nat) : Int)) (do_addN rfl Try.underlying46 (hk.at (List.mem_cons_of_mem _ (List.mem_cons_of_mem _ (List.mem_cons_self ..)))) (hk.at (List.mem_cons_self ..)) (by rw [IntKind.wrap_u64]; omega)) ?_
  clear hk; intro a hk
  refine list_k rfl rfl hk (by decide) (by repeat' (first | exact far_nil _ | refine far_cons (by decide) ?_)) (v := .pointer (some ⟨g, 0, none⟩)) (do_nilc rfl (hk.at (List.mem_cons_of_mem _ (List.mem_cons_of_mem _ (List.mem_cons_of_mem _ (List.mem_cons_of_mem _ (List.mem_cons_of_mem _ (List.mem_cons_of_mem _ (List.mem_cons_self ..))))))))) ?_
  clear hk; intro a hk
  refine list_k rfl rfl hk (by decide) (by repeat' (first | exact far_nil _ | refine far_cons (by decide) ?_)) (v := .pointer (some ⟨g, 70, none⟩)) (do_fld48_3 rfl (hk.at (List.mem_cons_self ..))) ?_
  clear hk; intro a hk
  refine wp_store_cell rfl rfl (by kernel_rfl) (hk.at (List.mem_cons_self ..)) (hk.at (List.mem_cons_of_mem _ (List.mem_cons_of_mem _ (List.mem_cons_self ..)))) rfl hB (by rw [dcells_length hxl]; decide) fun w2 b2 g2 s2 => ?_
  rw [dcells_setlen hxl] at b2
  refine keep_0 hk ?_
  clear hk; intro a hk
  refine hK2 _ _ ?_
  clear hK2 hB s2
  have hk2 : Keeps 85 ([(4, .int .i64 ((n : Nat) : Int)), (5, .nilIface), (1, .slice ad n c), (0, .pointer (some ⟨g, 0, none⟩))]) a := by
    refine ⟨hk.1, hk.2.1, fun x hx => hk.2.2 x ?_⟩
    rcases List.mem_cons.1 hx with rfl | hx
    · exact List.mem_cons_of_mem _ (List.mem_cons_of_mem _ (List.mem_cons_of_mem _ (List.mem_cons_of_mem _ (List.mem_cons_of_mem _ (List.mem_cons_of_mem _ (List.mem_cons_of_mem _ (List.mem_cons_of_mem _ (List.mem_cons_of_mem _ (List.mem_cons_self ..)))))))))
    rcases List.mem_cons.1 hx with rfl | hx
    · exact List.mem_cons_of_mem _ (List.mem_cons_of_mem _ (List.mem_cons_of_mem _ (List.mem_cons_of_mem _ (List.mem_cons_of_mem _ (List.mem_cons_of_mem _ (List.mem_cons_of_mem _ (List.mem_cons_of_mem _ (List.mem_cons_of_mem _ (List.mem_cons_of_mem _ (List.mem_cons_self ..))))))))))
    rcases List.mem_cons.1 hx with rfl | hx
    · exact List.mem_cons_of_mem _ (List.mem_cons_of_mem _ (List.mem_cons_of_mem _ (List.mem_cons_of_mem _ (List.mem_cons_of_mem _ (List.mem_cons_of_mem _ (List.mem_cons_of_mem _ (List.mem_cons_of_mem _ (List.mem_cons_of_mem _ (List.mem_cons_of_mem _ (List.mem_cons_of_mem _ (List.mem_cons_self ..)))))))))))
    rcases List.mem_cons.1 hx with rfl | hx
    · exact List.mem_cons_of_mem _ (List.mem_cons_of_mem _ (List.mem_cons_of_mem _ (List.mem_cons_of_mem _ (List.mem_cons_of_mem _ (List.mem_cons_of_mem _ (List.mem_cons_of_mem _ (List.mem_cons_of_mem _ (List.mem_cons_of_mem _ (List.mem_cons_of_mem _ (List.mem_cons_of_mem _ (List.mem_cons_of_mem _ (List.mem_cons_self ..))))))))))))
    cases hx
  clear hk
  have hk := hk2
  clear hk2
  have hr2 : Rd w2 ad p := rd_grown hr g2 (fun q hq h0 => (hg q hq (by omega)).2)
  clear hr
  refine wp_seq_k fun K3 hK3 => ?_
  have HT : ∀ (a : Act) (w' : World) (m' p' : List UInt8) (ad' : Option Addr) (n' c' : Nat), Keeps 85 [(4, .int .i64 ((n : Nat) : Int)), (5, .nilIface), (1, .slice ad' n' c'), (0, .pointer (some ⟨g, 0, none⟩))] a → Dg w' g m' (m.length + n) t → (m'.length % 64 = 0 ∨ n' = 0) → Rd w' ad' p' → p'.length = n' → n' ≤ c' → (∀ q, ad' = some q → 0 < n' → q.spot = none ∧ q.block ≠ g) → w.grownBy w' (some g) → m' ++ p' = m ++ p → K3 a w' := by
    intro a w3 m' p' ad' n' c' hk hD hm hr hl' hc' hg' hG hmp
    refine hK3 _ _ ?_
    clear hK3
    have hlen : m'.length + n' = m.length + n := by
      have := congrArg List.length hmp
      rw [List.length_append, List.length_append, hl', hl] at this
      exact this
    refine wp_seq_k fun K10 hK10 => ?_
    have HT2 : ∀ (a : Act) (w' : World) (m' p' : List UInt8) (ad' : Option Addr) (n' c' : Nat), Keeps 85 [(4, .int .i64 ((n : Nat) : Int)), (5, .nilIface), (1, .slice ad' n' c'), (0, .pointer (some ⟨g, 0, none⟩))] a → Dg w' g m' (m.length + n) t → (m'.length % 64 = 0 ∨ n' = 0) → n' < 64 → Rd w' ad' p' → p'.length = n' → n' ≤ c' → w.grownBy w' (some g) → m' ++ p' = m ++ p → K10 a w' := by
      clear hk hD hm hr hl' hc' hg' hG hmp hlen
      clear m' p' ad' n' c'
      intro a w4 m' p' ad' n' c' hk hD hm hlt hr hl' hc' hG hmp
      refine hK10 _ _ ?_
      clear hK10
      have hlen : m'.length + n' = m.length + n := by
        have := congrArg List.length hmp
        rw [List.length_append, List.length_append, hl', hl] at this
        exact this
      refine wp_seq_k fun K14 hK14 => ?_
      refine wp_seq_k fun K15 hK15 => ?_
      refine wp_region_lit ?_
      refine list_k rfl rfl hk (by decide) (by repeat' (first | exact far_nil _ | refine far_cons (by decide) ?_)) (v := .slice ad' n' c') (do_move rfl (hk.at (List.mem_cons_of_mem _ (List.mem_cons_of_mem _ (List.mem_cons_self ..))))) ?_
      clear hk; intro a hk
      refine list_k rfl rfl hk (by decide) (by repeat' (first | exact far_nil _ | refine far_cons (by decide) ?_)) (v := .int .i64 ((n' : Nat) : Int)) (do_lenS rfl (hk.at (List.mem_cons_self ..)) Try.underlying22) ?_
      clear hk; intro a hk
      refine list_k rfl rfl hk (by decide) (by repeat' (first | exact far_nil _ | refine far_cons (by decide) ?_)) (v := .bool (decide (0 < n'))) (do_gtr rfl Try.underlying3 (hk.at (List.mem_cons_self ..)) rfl) ?_
      clear hk; intro a hk
      refine hK15 _ _ (wp_cond (hk.at (List.mem_cons_self ..)) ?_)
      clear hK15
      have hk2 : Keeps 85 ([(4, .int .i64 ((n : Nat) : Int)), (5, .nilIface), (1, .slice ad' n' c'), (0, .pointer (some ⟨g, 0, none⟩))]) a := by
        refine ⟨hk.1, hk.2.1, fun x hx => hk.2.2 x ?_⟩
        rcases List.mem_cons.1 hx with rfl | hx
        · exact List.mem_cons_of_mem _ (List.mem_cons_of_mem _ (List.mem_cons_of_mem _ (List.mem_cons_self ..)))
        rcases List.mem_cons.1 hx with rfl | hx
        · exact List.mem_cons_of_mem _ (List.mem_cons_of_mem _ (List.mem_cons_of_mem _ (List.mem_cons_of_mem _ (List.mem_cons_self ..))))
        rcases List.mem_cons.1 hx with rfl | hx
        · exact List.mem_cons_of_mem _ (List.mem_cons_of_mem _ (List.mem_cons_of_mem _ (List.mem_cons_of_mem _ (List.mem_cons_of_mem _ (List.mem_cons_self ..)))))
        rcases List.mem_cons.1 hx with rfl | hx
        · exact List.mem_cons_of_mem _ (List.mem_cons_of_mem _ (List.mem_cons_of_mem _ (List.mem_cons_of_mem _ (List.mem_cons_of_mem _ (List.mem_cons_of_mem _ (List.mem_cons_self ..))))))
        cases hx
      clear hk
      have hk := hk2
      clear hk2
      have hret : ∀ (a : Act) (w' : World), Keeps 85 [(4, .int .i64 ((n : Nat) : Int)), (5, .nilIface), (1, .slice ad' n' c'), (0, .pointer (some ⟨g, 0, none⟩))] a → Dg w' g (m ++ p) (m ++ p).length t → w.grownBy w' (some g) → K14 a w' := by
        intro a w' hk hD hG
        refine hK14 _ _ (wp_ret ?_)
        have h4 := hk.at (t := 4) (v := .int .i64 ((n : Nat) : Int)) (by simp)
        have h5 := hk.at (t := 5) (v := .nilIface) (by simp)
        refine bodyPost_ret (results_tmp2 rfl _ _ _) hk.2.1 ?_
        have e : (.tuple #[a.tmps.getD 4 undef, a.tmps.getD 5 undef] : Value) = .tuple #[.int .i64 (n : Int), .nilIface] := by
          show (.tuple #[a.eval (.tmp 4), a.eval (.tmp 5)] : Value) = _
          rw [h4, h5]
        rw [e]
        exact ⟨rfl, hD, hG⟩
      clear hK14
      have hmpl : (m ++ p).length = m.length + n := by rw [List.length_append, hl]
      by_cases h0 : 0 < n'
      case neg =>
        rw [decide_eq_false h0]
        obtain rfl : n' = 0 := by omega
        obtain rfl : p' = [] := List.eq_nil_of_length_eq_zero hl'
        rw [List.append_nil] at hmp
        refine wp_skip (hret _ _ hk ?_ hG)
        rw [hmpl, ← hmp]
        exact hD
      case pos =>
        rw [decide_eq_true h0]
        have hm0 : m'.length % 64 = 0 := hm.resolve_right (by omega)
        clear hm
        obtain ⟨x4, hx4, hx4t, hB4⟩ := hD
        refine wp_region_lit ?_
        refine list_k rfl rfl hk (by decide) (by repeat' (first | exact far_nil _ | refine far_cons (by decide) ?_)) (v := .pointer (some ⟨g, 0, none⟩)) (do_move rfl (hk.at (List.mem_cons_of_mem _ (List.mem_cons_of_mem _ (List.mem_cons_of_mem _ (List.mem_cons_self ..)))))) ?_
        clear hk; intro a hk
        refine list_k rfl rfl hk (by decide) (by repeat' (first | exact far_nil _ | refine far_cons (by decide) ?_)) (v := .pointer (some ⟨g, 0, none⟩)) (do_move rfl (hk.at (List.mem_cons_of_mem _ (List.mem_cons_of_mem _ (List.mem_cons_of_mem _ (List.mem_cons_of_mem _ (List.mem_cons_self ..))))))) ?_
        clear hk; intro a hk
        refine list_k rfl rfl hk (by decide) (by repeat' (first | exact far_nil _ | refine far_cons (by decide) ?_)) (v := .pointer (some ⟨g, 0, none⟩)) (do_nilc rfl (hk.at (List.mem_cons_self ..))) ?_
        clear hk; intro a hk
        refine list_k rfl rfl hk (by decide) (by repeat' (first | exact far_nil _ | refine far_cons (by decide) ?_)) (v := .pointer (some ⟨g, 5, none⟩)) (do_fld48_1 rfl (hk.at (List.mem_cons_self ..))) ?_
        clear hk; intro a hk
        refine list_k rfl rfl hk (by decide) (by repeat' (first | exact far_nil _ | refine far_cons (by decide) ?_)) (v := .slice (some ⟨g, 5, none⟩) 64 64) (do_xall rfl (hk.at (List.mem_cons_self ..))) ?_
        clear hk; intro a hk
        refine list_k rfl rfl hk (by decide) (by repeat' (first | exact far_nil _ | refine far_cons (by decide) ?_)) (v := .slice ad' n' c') (do_move rfl (hk.at (List.mem_cons_of_mem _ (List.mem_cons_of_mem _ (List.mem_cons_of_mem _ (List.mem_cons_of_mem _ (List.mem_cons_of_mem _ (List.mem_cons_of_mem _ (List.mem_cons_of_mem _ (List.mem_cons_self ..)))))))))) ?_
        clear hk; intro a hk
        refine wp_copy_min (k := n') rfl rfl Try.underlying22 (by kernel_rfl) (hk.at (List.mem_cons_of_mem _ (List.mem_cons_self ..))) (hk.at (List.mem_cons_self ..)) hB4 p' hr hl' (Nat.min_eq_left (by omega)) (by rw [dcells_length hx4]; omega) h0 fun w5 b5 g5 s5 => ?_
        have hpt : p'.take n' = p' := List.take_of_length_le (by omega)
        have hsp := dcells_splice (h := sums m') (nx := m'.length % 64) (len := m.length + n) hx4 0 p' (by omega)
        rw [hpt, show (5 : Nat) = 5 + 0 from rfl, hsp] at b5
        have hx5 : (x4.take 0 ++ p' ++ x4.drop (0 + p'.length)).length = 64 := by simp; omega
        clear hsp hB4
        refine keep_k (v := .int .i64 ((n' : Nat) : Int)) hk (by decide) (by repeat' (first | exact far_nil _ | refine far_cons (by decide) ?_)) ?_
        clear hk; intro a hk
        refine list_k rfl rfl hk (by decide) (by repeat' (first | exact far_nil _ | refine far_cons (by decide) ?_)) (v := .pointer (some ⟨g, 0, none⟩)) (do_nilc rfl (hk.at (List.mem_cons_of_mem _ (List.mem_cons_of_mem _ (List.mem_cons_of_mem _ (List.mem_cons_of_mem _ (List.mem_cons_of_mem _ (List.mem_cons_of_mem _ (List.mem_cons_self ..))))))))) ?_
        clear hk; intro a hk
        refine list_k rfl rfl hk (by decide) (by repeat' (first | exact far_nil _ | refine far_cons (by decide) ?_)) (v := .pointer (some ⟨g, 69, none⟩)) (do_fld48_2 rfl (hk.at (List.mem_cons_self ..))) ?_
        clear hk; intro a hk
        refine wp_store_cell rfl rfl (by kernel_rfl) (hk.at (List.mem_cons_self ..)) (hk.at (List.mem_cons_of_mem _ (List.mem_cons_of_mem _ (List.mem_cons_self ..)))) rfl b5 (by rw [dcells_length hx5]; decide) fun w6 b6 g6 s6 => ?_
        rw [dcells_setnx hx5] at b6
        refine keep_0 hk ?_
        clear hk; intro a hk
        have hk2 : Keeps 85 ([(4, .int .i64 ((n : Nat) : Int)), (5, .nilIface), (1, .slice ad' n' c'), (0, .pointer (some ⟨g, 0, none⟩))]) a := by
          refine ⟨hk.1, hk.2.1, fun x hx => hk.2.2 x ?_⟩
          rcases List.mem_cons.1 hx with rfl | hx
          · exact List.mem_cons_of_mem _ (List.mem_cons_of_mem _ (List.mem_cons_of_mem _ (List.mem_cons_of_mem _ (List.mem_cons_of_mem _ (List.mem_cons_of_mem _ (List.mem_cons_of_mem _ (List.mem_cons_of_mem _ (List.mem_cons_of_mem _ (List.mem_cons_self ..)))))))))
          rcases List.mem_cons.1 hx with rfl | hx
          · exact List.mem_cons_of_mem _ (List.mem_cons_of_mem _ (List.mem_cons_of_mem _ (List.mem_cons_of_mem _ (List.mem_cons_of_mem _ (List.mem_cons_of_mem _ (List.mem_cons_of_mem _ (List.mem_cons_of_mem _ (List.mem_cons_of_mem _ (List.mem_cons_of_mem _ (List.mem_cons_self ..))))))))))
          rcases List.mem_cons.1 hx with rfl | hx
          · exact List.mem_cons_of_mem _ (List.mem_cons_of_mem _ (List.mem_cons_of_mem _ (List.mem_cons_of_mem _ (List.mem_cons_of_mem _ (List.mem_cons_of_mem _ (List.mem_cons_of_mem _ (List.mem_cons_of_mem _ (List.mem_cons_of_mem _ (List.mem_cons_of_mem _ (List.mem_cons_of_mem _ (List.mem_cons_self ..)))))))))))
          rcases List.mem_cons.1 hx with rfl | hx
          · exact List.mem_cons_of_mem _ (List.mem_cons_of_mem _ (List.mem_cons_of_mem _ (List.mem_cons_of_mem _ (List.mem_cons_of_mem _ (List.mem_cons_of_mem _ (List.mem_cons_of_mem _ (List.mem_cons_of_mem _ (List.mem_cons_of_mem _ (List.mem_cons_of_mem _ (List.mem_cons_of_mem _ (List.mem_cons_of_mem _ (List.mem_cons_self ..))))))))))))
          cases hx
        clear hk
        have hk := hk2
        clear hk2
        have hk2 : Keeps 85 [(4, .int .i64 ((n : Nat) : Int)), (5, .nilIface), (1, .slice ad' n' c'), (0, .pointer (some ⟨g, 0, none⟩))] a := hk.sub (fun x hx => by simp at hx ⊢; rcases hx with rfl | rfl | rfl | rfl <;> simp)
        refine hret _ _ hk2 ?_ (grown_trans hG (grown_trans g5 g6))
        have hs : sums (m' ++ p') = sums m' := sums_less _ _ (by omega)
        rw [hmpl, ← hmp]
        refine ⟨_, hx5, ?_, ?_⟩
        · rw [List.length_append, hl', show (m'.length + n') % 64 = n' by omega, show (m'.length + n') / 64 * 64 = m'.length by omega, List.drop_left]
          simp
          rw [List.take_append_of_le_length (by omega), List.take_of_length_le (by omega)]
        · rw [hs, show (m' ++ p').length % 64 = n' by rw [List.length_append, hl']; omega]
          exact b6
    refine wp_seq_k fun K11 hK11 => ?_
    refine wp_region_lit ?_
    refine list_k rfl rfl hk (by decide) (by repeat' (first | exact far_nil _ | refine far_cons (by decide) ?_)) (v := .slice ad' n' c') (do_move rfl (hk.at (List.mem_cons_of_mem _ (List.mem_cons_of_mem _ (List.mem_cons_self ..))))) ?_
    clear hk; intro a hk
    refine list_k rfl rfl hk (by decide) (by repeat' (first | exact far_nil _ | refine far_cons (by decide) ?_)) (v := .int .i64 ((n' : Nat) : Int)) (do_lenS rfl (hk.at (List.mem_cons_self ..)) Try.underlying22) ?_
    clear hk; intro a hk
    refine list_k rfl rfl hk (by decide) (by repeat' (first | exact far_nil _ | refine far_cons (by decide) ?_)) (v := .bool (decide (64 ≤ n'))) (do_geq rfl Try.underlying3 (hk.at (List.mem_cons_self ..)) rfl) ?_
    clear hk; intro a hk
    refine hK11 _ _ (wp_cond (hk.at (List.mem_cons_self ..)) ?_)
    clear hK11
    have hk2 : Keeps 85 ([(4, .int .i64 ((n : Nat) : Int)), (5, .nilIface), (1, .slice ad' n' c'), (0, .pointer (some ⟨g, 0, none⟩))]) a := by
      refine ⟨hk.1, hk.2.1, fun x hx => hk.2.2 x ?_⟩
      rcases List.mem_cons.1 hx with rfl | hx
      · exact List.mem_cons_of_mem _ (List.mem_cons_of_mem _ (List.mem_cons_of_mem _ (List.mem_cons_self ..)))
      rcases List.mem_cons.1 hx with rfl | hx
      · exact List.mem_cons_of_mem _ (List.mem_cons_of_mem _ (List.mem_cons_of_mem _ (List.mem_cons_of_mem _ (List.mem_cons_self ..))))
      rcases List.mem_cons.1 hx with rfl | hx
      · exact List.mem_cons_of_mem _ (List.mem_cons_of_mem _ (List.mem_cons_of_mem _ (List.mem_cons_of_mem _ (List.mem_cons_of_mem _ (List.mem_cons_self ..)))))
      rcases List.mem_cons.1 hx with rfl | hx
      · exact List.mem_cons_of_mem _ (List.mem_cons_of_mem _ (List.mem_cons_of_mem _ (List.mem_cons_of_mem _ (List.mem_cons_of_mem _ (List.mem_cons_of_mem _ (List.mem_cons_self ..))))))
      cases hx
    clear hk
    have hk := hk2
    clear hk2
    have hk2 : Keeps 85 [(4, .int .i64 ((n : Nat) : Int)), (5, .nilIface), (1, .slice ad' n' c'), (0, .pointer (some ⟨g, 0, none⟩))] a := hk.sub (fun x hx => by simp at hx ⊢; rcases hx with rfl | rfl | rfl | rfl <;> simp)
    clear hk
    have hk := hk2
    clear hk2
    by_cases h64 : 64 ≤ n'
    case neg =>
      rw [decide_eq_false h64]
      exact wp_skip (HT2 a w3 m' p' ad' n' c' hk hD hm (by omega) hr hl' hc' hG hmp)
    case pos =>
      rw [decide_eq_true h64]
      have hm0 : m'.length % 64 = 0 := hm.resolve_right (by omega)
      clear hm
      obtain ⟨x3, hx3, hx3t, hB3⟩ := hD
      refine wp_seq_k fun K12 hK12 => ?_
      refine wp_region_lit ?_
      refine list_k rfl rfl hk (by decide) (by repeat' (first | exact far_nil _ | refine far_cons (by decide) ?_)) (v := .slice ad' n' c') (do_move rfl (hk.at (List.mem_cons_of_mem _ (List.mem_cons_of_mem _ (List.mem_cons_self ..))))) ?_
      clear hk; intro a hk
      refine list_k rfl rfl hk (by decide) (by repeat' (first | exact far_nil _ | refine far_cons (by decide) ?_)) (v := .int .i64 ((n' : Nat) : Int)) (do_lenS rfl (hk.at (List.mem_cons_self ..)) Try.underlying22) ?_
      clear hk; intro a hk
      refine list_k rfl rfl hk (by decide) (by repeat' (first | exact far_nil _ | refine far_cons (by decide) ?_)) (v := .int .i64 ((n' / 64 * 64 : Nat) : Int)) (do_an63 rfl (hk.at (List.mem_cons_self ..)) (by omega)) ?_
      clear hk; intro a hk
      refine list_k rfl rfl hk (by decide) (by repeat' (first | exact far_nil _ | refine far_cons (by decide) ?_)) (v := .int .i64 ((n' / 64 * 64 : Nat) : Int)) (do_assign rfl (hk.at (List.mem_cons_self ..))) ?_
      clear hk; intro a hk
      refine hK12 _ _ ?_
      clear hK12
      have hk2 : Keeps 85 ([(7, .int .i64 ((n' / 64 * 64 : Nat) : Int)), (4, .int .i64 ((n : Nat) : Int)), (5, .nilIface), (1, .slice ad' n' c'), (0, .pointer (some ⟨g, 0, none⟩))]) a := by
        refine ⟨hk.1, hk.2.1, fun x hx => hk.2.2 x ?_⟩
        rcases List.mem_cons.1 hx with rfl | hx
        · exact List.mem_cons_self ..
        rcases List.mem_cons.1 hx with rfl | hx
        · exact List.mem_cons_of_mem _ (List.mem_cons_of_mem _ (List.mem_cons_of_mem _ (List.mem_cons_of_mem _ (List.mem_cons_self ..))))
        rcases List.mem_cons.1 hx with rfl | hx
        · exact List.mem_cons_of_mem _ (List.mem_cons_of_mem _ (List.mem_cons_of_mem _ (List.mem_cons_of_mem _ (List.mem_cons_of_mem _ (List.mem_cons_self ..)))))
        rcases List.mem_cons.1 hx with rfl | hx
        · exact List.mem_cons_of_mem _ (List.mem_cons_of_mem _ (List.mem_cons_of_mem _ (List.mem_cons_of_mem _ (List.mem_cons_of_mem _ (List.mem_cons_of_mem _ (List.mem_cons_self ..))))))
        rcases List.mem_cons.1 hx with rfl | hx
        · exact List.mem_cons_of_mem _ (List.mem_cons_of_mem _ (List.mem_cons_of_mem _ (List.mem_cons_of_mem _ (List.mem_cons_of_mem _ (List.mem_cons_of_mem _ (List.mem_cons_of_mem _ (List.mem_cons_self ..)))))))
        cases hx
      clear hk
      have hk := hk2
      clear hk2
      refine wp_seq_k fun K13 hK13 => ?_
      have hr' : Rd w3 ad' (p'.take (n' / 64 * 64)) := hr.take _
      have hlt : (p'.take (n' / 64 * 64)).length = n' / 64 * 64 := by rw [List.length_take]; omega
      refine wp_region_lit ?_
      refine list_k rfl rfl hk (by decide) (by repeat' (first | exact far_nil _ | refine far_cons (by decide) ?_)) (v := .pointer (some ⟨g, 0, none⟩)) (do_move rfl (hk.at (List.mem_cons_of_mem _ (List.mem_cons_of_mem _ (List.mem_cons_of_mem _ (List.mem_cons_of_mem _ (List.mem_cons_self ..))))))) ?_
      clear hk; intro a hk
      refine list_k rfl rfl hk (by decide) (by repeat' (first | exact far_nil _ | refine far_cons (by decide) ?_)) (v := .slice ad' n' c') (do_move rfl (hk.at (List.mem_cons_of_mem _ (List.mem_cons_of_mem _ (List.mem_cons_of_mem _ (List.mem_cons_of_mem _ (List.mem_cons_self ..))))))) ?_
      clear hk; intro a hk
      refine list_k rfl rfl hk (by decide) (by repeat' (first | exact far_nil _ | refine far_cons (by decide) ?_)) (v := .int .i64 ((n' / 64 * 64 : Nat) : Int)) (do_move rfl (hk.at (List.mem_cons_of_mem _ (List.mem_cons_of_mem _ (List.mem_cons_self ..))))) ?_
      clear hk; intro a hk
      refine list_k rfl rfl hk (by decide) (by repeat' (first | exact far_nil _ | refine far_cons (by decide) ?_)) (v := (.slice ad' (n' / 64 * 64) c')) (do_head rfl Try.underlying22 (by kernel_rfl) (hk.at (List.mem_cons_of_mem _ (List.mem_cons_self ..))) (hk.at (List.mem_cons_self ..)) (by omega) (by omega)) ?_
      clear hk; intro a hk
      refine wp_call (R := fun e w' => e = .returned (.tuple #[]) ∧ Blk w' g (hcells (blks (n' / 64) (sums m') (p'.take (n' / 64 * 64))) ++ (bvs x3 ++ [.int .i64 ((m'.length % 64 : Nat) : Int), .int .u64 ((m.length + n : Nat) : Int)])) t ∧ w3.grownBy w' (some g)) rfl (do_call2 rfl (hk.at (List.mem_cons_of_mem _ (List.mem_cons_of_mem _ (List.mem_cons_of_mem _ (List.mem_cons_self ..))))) (hk.at (List.mem_cons_self ..)) (blk_enter _ _)) (block_ok g (sums m') (bvs x3 ++ [.int .i64 ((m'.length % 64 : Nat) : Int), .int .u64 ((m.length + n : Nat) : Int)]) t (n' / 64) ad' _ c' _ _ hB3 hr' hlt (by omega) (by omega)) ?_
      rintro e w5 ⟨rfl, b5, g5⟩
      refine ⟨_, rfl, ?_⟩
      refine keep_k (v := .tuple #[]) hk (by decide) (by repeat' (first | exact far_nil _ | refine far_cons (by decide) ?_)) ?_
      clear hk; intro a hk
      refine hK13 _ _ ?_
      clear hK13
      have hk2 : Keeps 85 ([(7, .int .i64 ((n' / 64 * 64 : Nat) : Int)), (4, .int .i64 ((n : Nat) : Int)), (5, .nilIface), (1, .slice ad' n' c'), (0, .pointer (some ⟨g, 0, none⟩))]) a := by
        refine ⟨hk.1, hk.2.1, fun x hx => hk.2.2 x ?_⟩
        rcases List.mem_cons.1 hx with rfl | hx
        · exact List.mem_cons_of_mem _ (List.mem_cons_of_mem _ (List.mem_cons_of_mem _ (List.mem_cons_of_mem _ (List.mem_cons_of_mem _ (List.mem_cons_self ..)))))
        rcases List.mem_cons.1 hx with rfl | hx
        · exact List.mem_cons_of_mem _ (List.mem_cons_of_mem _ (List.mem_cons_of_mem _ (List.mem_cons_of_mem _ (List.mem_cons_of_mem _ (List.mem_cons_of_mem _ (List.mem_cons_self ..))))))
        rcases List.mem_cons.1 hx with rfl | hx
        · exact List.mem_cons_of_mem _ (List.mem_cons_of_mem _ (List.mem_cons_of_mem _ (List.mem_cons_of_mem _ (List.mem_cons_of_mem _ (List.mem_cons_of_mem _ (List.mem_cons_of_mem _ (List.mem_cons_self ..)))))))
        rcases List.mem_cons.1 hx with rfl | hx
        · exact List.mem_cons_of_mem _ (List.mem_cons_of_mem _ (List.mem_cons_of_mem _ (List.mem_cons_of_mem _ (List.mem_cons_of_mem _ (List.mem_cons_of_mem _ (List.mem_cons_of_mem _ (List.mem_cons_of_mem _ (List.mem_cons_self ..))))))))
        rcases List.mem_cons.1 hx with rfl | hx
        · exact List.mem_cons_of_mem _ (List.mem_cons_of_mem _ (List.mem_cons_of_mem _ (List.mem_cons_of_mem _ (List.mem_cons_of_mem _ (List.mem_cons_of_mem _ (List.mem_cons_of_mem _ (List.mem_cons_of_mem _ (List.mem_cons_of_mem _ (List.mem_cons_self ..)))))))))
        cases hx
      clear hk
      have hk := hk2
      clear hk2
      refine wp_region_lit ?_
      refine list_k rfl rfl hk (by decide) (by repeat' (first | exact far_nil _ | refine far_cons (by decide) ?_)) (v := .slice ad' n' c') (do_move rfl (hk.at (List.mem_cons_of_mem _ (List.mem_cons_of_mem _ (List.mem_cons_of_mem _ (List.mem_cons_self ..)))))) ?_
      clear hk; intro a hk
      refine list_k rfl rfl hk (by decide) (by repeat' (first | exact far_nil _ | refine far_cons (by decide) ?_)) (v := .int .i64 ((n' / 64 * 64 : Nat) : Int)) (do_move rfl (hk.at (List.mem_cons_of_mem _ (List.mem_cons_self ..)))) ?_
      clear hk; intro a hk
      refine list_k rfl rfl hk (by decide) (by repeat' (first | exact far_nil _ | refine far_cons (by decide) ?_)) (v := .slice (tailA c' (n' / 64 * 64) ad') (n' - n' / 64 * 64) (c' - n' / 64 * 64)) (do_tail rfl Try.underlying22 (by kernel_rfl) (fun _ q hq => (hg' q hq (by omega)).1) (hk.at (List.mem_cons_of_mem _ (List.mem_cons_self ..))) (hk.at (List.mem_cons_self ..)) (by omega) (by omega)) ?_
      clear hk; intro a hk
      have hk2 : Keeps 85 ([(72, .slice (tailA c' (n' / 64 * 64) ad') (n' - n' / 64 * 64) (c' - n' / 64 * 64)), (71, .int .i64 ((n' / 64 * 64 : Nat) : Int)), (70, .slice ad' n' c'), (7, .int .i64 ((n' / 64 * 64 : Nat) : Int)), (4, .int .i64 ((n : Nat) : Int)), (5, .nilIface), (0, .pointer (some ⟨g, 0, none⟩))]) a := by
        refine ⟨hk.1, hk.2.1, fun x hx => hk.2.2 x ?_⟩
        rcases List.mem_cons.1 hx with rfl | hx
        · exact List.mem_cons_self ..
        rcases List.mem_cons.1 hx with rfl | hx
        · exact List.mem_cons_of_mem _ (List.mem_cons_self ..)
        rcases List.mem_cons.1 hx with rfl | hx
        · exact List.mem_cons_of_mem _ (List.mem_cons_of_mem _ (List.mem_cons_self ..))
        rcases List.mem_cons.1 hx with rfl | hx
        · exact List.mem_cons_of_mem _ (List.mem_cons_of_mem _ (List.mem_cons_of_mem _ (List.mem_cons_self ..)))
        rcases List.mem_cons.1 hx with rfl | hx
        · exact List.mem_cons_of_mem _ (List.mem_cons_of_mem _ (List.mem_cons_of_mem _ (List.mem_cons_of_mem _ (List.mem_cons_self ..))))
        rcases List.mem_cons.1 hx with rfl | hx
        · exact List.mem_cons_of_mem _ (List.mem_cons_of_mem _ (List.mem_cons_of_mem _ (List.mem_cons_of_mem _ (List.mem_cons_of_mem _ (List.mem_cons_self ..)))))
        rcases List.mem_cons.1 hx with rfl | hx
        · exact List.mem_cons_of_mem _ (List.mem_cons_of_mem _ (List.mem_cons_of_mem _ (List.mem_cons_of_mem _ (List.mem_cons_of_mem _ (List.mem_cons_of_mem _ (List.mem_cons_of_mem _ (List.mem_cons_self ..)))))))
        cases hx
      clear hk
      have hk := hk2
      clear hk2
      refine list_k rfl rfl hk (by decide) (by repeat' (first | exact far_nil _ | refine far_cons (by decide) ?_)) (v := .slice (tailA c' (n' / 64 * 64) ad') (n' - n' / 64 * 64) (c' - n' / 64 * 64)) (do_assign rfl (hk.at (List.mem_cons_self ..))) ?_
      clear hk; intro a hk
      have hk2 : Keeps 85 ([(1, .slice (tailA c' (n' / 64 * 64) ad') (n' - n' / 64 * 64) (c' - n' / 64 * 64)), (4, .int .i64 ((n : Nat) : Int)), (5, .nilIface), (0, .pointer (some ⟨g, 0, none⟩))]) a := by
        refine ⟨hk.1, hk.2.1, fun x hx => hk.2.2 x ?_⟩
        rcases List.mem_cons.1 hx with rfl | hx
        · exact List.mem_cons_self ..
        rcases List.mem_cons.1 hx with rfl | hx
        · exact List.mem_cons_of_mem _ (List.mem_cons_of_mem _ (List.mem_cons_of_mem _ (List.mem_cons_of_mem _ (List.mem_cons_of_mem _ (List.mem_cons_self ..)))))
        rcases List.mem_cons.1 hx with rfl | hx
        · exact List.mem_cons_of_mem _ (List.mem_cons_of_mem _ (List.mem_cons_of_mem _ (List.mem_cons_of_mem _ (List.mem_cons_of_mem _ (List.mem_cons_of_mem _ (List.mem_cons_self ..))))))
        rcases List.mem_cons.1 hx with rfl | hx
        · exact List.mem_cons_of_mem _ (List.mem_cons_of_mem _ (List.mem_cons_of_mem _ (List.mem_cons_of_mem _ (List.mem_cons_of_mem _ (List.mem_cons_of_mem _ (List.mem_cons_of_mem _ (List.mem_cons_self ..)))))))
        cases hx
      clear hk
      have hk := hk2
      clear hk2
      have hk2 : Keeps 85 [(4, .int .i64 ((n : Nat) : Int)), (5, .nilIface), (1, .slice (tailA c' (n' / 64 * 64) ad') (n' - n' / 64 * 64) (c' - n' / 64 * 64)), (0, .pointer (some ⟨g, 0, none⟩))] a := hk.sub (fun x hx => by simp at hx ⊢; rcases hx with rfl | rfl | rfl | rfl <;> simp)
      have hr5 : Rd w5 ad' p' := rd_grown hr g5 (fun q hq h0 => (hg' q hq (by omega)).2)
      have hs : sums (m' ++ p'.take (n' / 64 * 64)) = blks (n' / 64) (sums m') (p'.take (n' / 64 * 64)) := by
        rw [sums_app _ _ hm0, hlt, Nat.mul_div_cancel _ (by decide)]
      have hml : (m' ++ p'.take (n' / 64 * 64)).length % 64 = 0 := by rw [List.length_append, hlt]; omega
      refine HT2 a w5 (m' ++ p'.take (n' / 64 * 64)) (p'.drop (n' / 64 * 64)) _ _ _ hk2 ⟨x3, hx3, ?_, ?_⟩ (.inl hml) (by omega) (hr5.tailA (by omega)) (by rw [List.length_drop]; omega) (by omega) (grown_trans hG g5) (by rw [List.append_assoc, List.take_append_drop]; exact hmp)
      · rw [hml, List.take_zero, List.drop_of_length_le]
        omega
      · rw [hs, hml]
        rw [hm0] at b5
        exact b5
  refine wp_seq_k fun K4 hK4 => ?_
  clear hK3
  refine wp_region_lit ?_
  refine list_k rfl rfl hk (by decide) (by repeat' (first | exact far_nil _ | refine far_cons (by decide) ?_)) (v := .pointer (some ⟨g, 0, none⟩)) (do_move rfl (hk.at (List.mem_cons_of_mem _ (List.mem_cons_of_mem _ (List.mem_cons_of_mem _ (List.mem_cons_self ..)))))) ?_
  clear hk; intro a hk
  refine list_k rfl rfl hk (by decide) (by repeat' (first | exact far_nil _ | refine far_cons (by decide) ?_)) (v := .pointer (some ⟨g, 0, none⟩)) (do_nilc rfl (hk.at (List.mem_cons_self ..))) ?_
  clear hk; intro a hk
  refine list_k rfl rfl hk (by decide) (by repeat' (first | exact far_nil _ | refine far_cons (by decide) ?_)) (v := .pointer (some ⟨g, 69, none⟩)) (do_fld48_2 rfl (hk.at (List.mem_cons_self ..))) ?_
  clear hk; intro a hk
  refine list_k rfl rfl hk (by decide) (by repeat' (first | exact far_nil _ | refine far_cons (by decide) ?_)) (v := .int .i64 ((m.length % 64 : Nat) : Int)) (do_ldB rfl Try.underlying3 rfl (hk.at (List.mem_cons_self ..)) b2 (dcells_nx hxl)) ?_
  clear hk; intro a hk
  refine list_k rfl rfl hk (by decide) (by repeat' (first | exact far_nil _ | refine far_cons (by decide) ?_)) (v := .bool (decide (0 < m.length % 64))) (do_gtr rfl Try.underlying3 (hk.at (List.mem_cons_self ..)) rfl) ?_
  clear hk; intro a hk
  refine hK4 _ _ (wp_cond (hk.at (List.mem_cons_self ..)) ?_)
  clear hK4
  have hk2 : Keeps 85 ([(4, .int .i64 ((n : Nat) : Int)), (5, .nilIface), (1, .slice ad n c), (0, .pointer (some ⟨g, 0, none⟩))]) a := by
    refine ⟨hk.1, hk.2.1, fun x hx => hk.2.2 x ?_⟩
    rcases List.mem_cons.1 hx with rfl | hx
    · exact List.mem_cons_of_mem _ (List.mem_cons_of_mem _ (List.mem_cons_of_mem _ (List.mem_cons_of_mem _ (List.mem_cons_of_mem _ (List.mem_cons_self ..)))))
    rcases List.mem_cons.1 hx with rfl | hx
    · exact List.mem_cons_of_mem _ (List.mem_cons_of_mem _ (List.mem_cons_of_mem _ (List.mem_cons_of_mem _ (List.mem_cons_of_mem _ (List.mem_cons_of_mem _ (List.mem_cons_self ..))))))
    rcases List.mem_cons.1 hx with rfl | hx
    · exact List.mem_cons_of_mem _ (List.mem_cons_of_mem _ (List.mem_cons_of_mem _ (List.mem_cons_of_mem _ (List.mem_cons_of_mem _ (List.mem_cons_of_mem _ (List.mem_cons_of_mem _ (List.mem_cons_self ..)))))))
    rcases List.mem_cons.1 hx with rfl | hx
    · exact List.mem_cons_of_mem _ (List.mem_cons_of_mem _ (List.mem_cons_of_mem _ (List.mem_cons_of_mem _ (List.mem_cons_of_mem _ (List.mem_cons_of_mem _ (List.mem_cons_of_mem _ (List.mem_cons_of_mem _ (List.mem_cons_self ..))))))))
    cases hx
  clear hk
  have hk := hk2
  clear hk2
  have hk2 : Keeps 85 [(4, .int .i64 ((n : Nat) : Int)), (5, .nilIface), (1, .slice ad n c), (0, .pointer (some ⟨g, 0, none⟩))] a := hk.sub (fun x hx => by simp at hx ⊢; rcases hx with rfl | rfl | rfl | rfl <;> simp)
  clear hk
  have hk := hk2
  clear hk2
  by_cases h0 : 0 < m.length % 64
  case neg =>
    rw [decide_eq_false h0]
    exact wp_skip (HT a w2 m p ad n c hk ⟨x, hxl, hxt, b2⟩ (.inl (by omega)) hr2 hl hc hg g2 rfl)
  case pos =>
    rw [decide_eq_true h0]
    obtain ⟨k, hk64⟩ : ∃ k, Nat.min n (64 - m.length % 64) = k := ⟨_, rfl⟩
    have hkn : k ≤ n ∧ k ≤ 64 - m.length % 64 ∧ (k = n ∨ k = 64 - m.length % 64) := by subst hk64; exact ⟨Nat.min_le_left _ _, Nat.min_le_right _ _, by rcases Nat.le_total n (64 - m.length % 64) with h | h; exact .inl (Nat.min_eq_left h); exact .inr (Nat.min_eq_right h)⟩
    refine wp_seq_k fun K5 hK5 => ?_
    refine region_plan2 (fun w' => ∃ cs, cs[69]? = some (.int .i64 ((m.length % 64 : Nat) : Int)) ∧ Blk w' g cs t) [(0, 0), (1, 0), (2, 0), (3, 0), (4, 0), (5, 0), (6, 0), (7, 0), (8, 0), (9, 1), (10, 0)] rfl (by kernel_rfl) (by kernel_rfl) rfl (by intro c a d v w h; cases d <;> exact h) (fun w' _ hb => ⟨_, dcells_nx hxl, b2.kept hb⟩) ?_
    intro OPS w2d hpW hbd
    clear hpW
    refine plan_k rfl hk (by decide) (by repeat' (first | exact far_nil _ | refine far_cons (by decide) ?_)) (v := .pointer (some ⟨g, 0, none⟩)) (fun o ho w' hS => do_move ho (hk.at (List.mem_cons_of_mem _ (List.mem_cons_of_mem _ (List.mem_cons_of_mem _ (List.mem_cons_self ..)))))) ?_
    clear hk; intro a hk
    refine plan_k rfl hk (by decide) (by repeat' (first | exact far_nil _ | refine far_cons (by decide) ?_)) (v := .pointer (some ⟨g, 0, none⟩)) (fun o ho w' hS => do_nilc ho (hk.at (List.mem_cons_self ..))) ?_
    clear hk; intro a hk
    refine plan_k rfl hk (by decide) (by repeat' (first | exact far_nil _ | refine far_cons (by decide) ?_)) (v := .pointer (some ⟨g, 5, none⟩)) (fun o ho w' hS => do_fld48_1 ho (hk.at (List.mem_cons_self ..))) ?_
    clear hk; intro a hk
    refine plan_k rfl hk (by decide) (by repeat' (first | exact far_nil _ | refine far_cons (by decide) ?_)) (v := .pointer (some ⟨g, 0, none⟩)) (fun o ho w' hS => do_move ho (hk.at (List.mem_cons_of_mem _ (List.mem_cons_of_mem _ (List.mem_cons_of_mem _ (List.mem_cons_of_mem _ (List.mem_cons_of_mem _ (List.mem_cons_of_mem _ (List.mem_cons_self ..))))))))) ?_
    clear hk; intro a hk
    refine plan_k rfl hk (by decide) (by repeat' (first | exact far_nil _ | refine far_cons (by decide) ?_)) (v := .pointer (some ⟨g, 0, none⟩)) (fun o ho w' hS => do_nilc ho (hk.at (List.mem_cons_self ..))) ?_
    clear hk; intro a hk
    refine plan_k rfl hk (by decide) (by repeat' (first | exact far_nil _ | refine far_cons (by decide) ?_)) (v := .pointer (some ⟨g, 69, none⟩)) (fun o ho w' hS => do_fld48_2 ho (hk.at (List.mem_cons_self ..))) ?_
    clear hk; intro a hk
    refine plan_k rfl hk (by decide) (by repeat' (first | exact far_nil _ | refine far_cons (by decide) ?_)) (v := .int .i64 ((m.length % 64 : Nat) : Int)) (fun o ho w' hS => (by obtain ⟨cs, h1, h2⟩ := hS; exact do_ldB ho Try.underlying3 rfl (hk.at (List.mem_cons_self ..)) h2 h1)) ?_
    clear hk; intro a hk
    refine plan_k rfl hk (by decide) (by repeat' (first | exact far_nil _ | refine far_cons (by decide) ?_)) (v := .slice (some ⟨g, 5 + m.length % 64, none⟩) (64 - m.length % 64) (64 - m.length % 64)) (fun o ho w' hS => do_xfrom ho (hk.at (List.mem_cons_of_mem _ (List.mem_cons_of_mem _ (List.mem_cons_of_mem _ (List.mem_cons_of_mem _ (List.mem_cons_self ..)))))) (hk.at (List.mem_cons_self ..)) (by omega)) ?_
    clear hk; intro a hk
    refine plan_k rfl hk (by decide) (by repeat' (first | exact far_nil _ | refine far_cons (by decide) ?_)) (v := .slice ad n c) (fun o ho w' hS => do_move ho (hk.at (List.mem_cons_of_mem _ (List.mem_cons_of_mem _ (List.mem_cons_of_mem _ (List.mem_cons_of_mem _ (List.mem_cons_of_mem _ (List.mem_cons_of_mem _ (List.mem_cons_of_mem _ (List.mem_cons_of_mem _ (List.mem_cons_of_mem _ (List.mem_cons_of_mem _ (List.mem_cons_self ..))))))))))))) ?_
    clear hk; intro a hk
    refine plan_kw2 rfl fun o ho hd hgd => ?_
    have hB2 := b2.kept hbd
    refine copy_some (k := k) hgd ho Try.underlying22 (by kernel_rfl) (hk.at (List.mem_cons_of_mem _ (List.mem_cons_self ..))) (hk.at (List.mem_cons_self ..)) hB2 p (hr2.kept hbd) hl hk64 (by rw [dcells_length hxl]; omega) ?_
    intro w5 b5 g5
    have hpt : (p.take k).length = k := by rw [List.length_take]; omega
    rw [dcells_splice hxl (m.length % 64) (p.take k) (by omega)] at b5
    have hx5 : (x.take (m.length % 64) ++ p.take k ++ x.drop (m.length % 64 + (p.take k).length)).length = 64 := by simp; omega
    rw [hd]
    refine keep_k (v := .int .i64 ((k : Nat) : Int)) hk (by decide) (by repeat' (first | exact far_nil _ | refine far_cons (by decide) ?_)) ?_
    clear hk; intro a hk
    refine ⟨⟨_, dcells_nx hx5, b5⟩, ?_⟩
    refine plan_k rfl hk (by decide) (by repeat' (first | exact far_nil _ | refine far_cons (by decide) ?_)) (v := .int .i64 ((k : Nat) : Int)) (fun o ho w' hS => do_assign ho (hk.at (List.mem_cons_self ..))) ?_
    clear hk; intro a hk
    refine plan_k0 ?_
    refine hK5 _ _ ?_
    clear hK5
    have hk2 : Keeps 85 ([(6, .int .i64 ((k : Nat) : Int)), (4, .int .i64 ((n : Nat) : Int)), (5, .nilIface), (1, .slice ad n c), (0, .pointer (some ⟨g, 0, none⟩))]) a := by
      refine ⟨hk.1, hk.2.1, fun x hx => hk.2.2 x ?_⟩
      rcases List.mem_cons.1 hx with rfl | hx
      · exact List.mem_cons_self ..
      rcases List.mem_cons.1 hx with rfl | hx
      · exact List.mem_cons_of_mem _ (List.mem_cons_of_mem _ (List.mem_cons_of_mem _ (List.mem_cons_of_mem _ (List.mem_cons_of_mem _ (List.mem_cons_of_mem _ (List.mem_cons_of_mem _ (List.mem_cons_of_mem _ (List.mem_cons_of_mem _ (List.mem_cons_of_mem _ (List.mem_cons_of_mem _ (List.mem_cons_self ..)))))))))))
      rcases List.mem_cons.1 hx with rfl | hx
      · exact List.mem_cons_of_mem _ (List.mem_cons_of_mem _ (List.mem_cons_of_mem _ (List.mem_cons_of_mem _ (List.mem_cons_of_mem _ (List.mem_cons_of_mem _ (List.mem_cons_of_mem _ (List.mem_cons_of_mem _ (List.mem_cons_of_mem _ (List.mem_cons_of_mem _ (List.mem_cons_of_mem _ (List.mem_cons_of_mem _ (List.mem_cons_self ..))))))))))))
      rcases List.mem_cons.1 hx with rfl | hx
      · exact List.mem_cons_of_mem _ (List.mem_cons_of_mem _ (List.mem_cons_of_mem _ (List.mem_cons_of_mem _ (List.mem_cons_of_mem _ (List.mem_cons_of_mem _ (List.mem_cons_of_mem _ (List.mem_cons_of_mem _ (List.mem_cons_of_mem _ (List.mem_cons_of_mem _ (List.mem_cons_of_mem _ (List.mem_cons_of_mem _ (List.mem_cons_of_mem _ (List.mem_cons_self ..)))))))))))))
      rcases List.mem_cons.1 hx with rfl | hx
      · exact List.mem_cons_of_mem _ (List.mem_cons_of_mem _ (List.mem_cons_of_mem _ (List.mem_cons_of_mem _ (List.mem_cons_of_mem _ (List.mem_cons_of_mem _ (List.mem_cons_of_mem _ (List.mem_cons_of_mem _ (List.mem_cons_of_mem _ (List.mem_cons_of_mem _ (List.mem_cons_of_mem _ (List.mem_cons_of_mem _ (List.mem_cons_of_mem _ (List.mem_cons_of_mem _ (List.mem_cons_self ..))))))))))))))
      cases hx
    clear hk
    have hk := hk2
    clear hk2
    have g25 := grown_trans (grown_below hbd (some g)) g5
    refine wp_seq_k fun K6 hK6 => ?_
    refine wp_region_lit ?_
    refine list_k rfl rfl hk (by decide) (by repeat' (first | exact far_nil _ | refine far_cons (by decide) ?_)) (v := .pointer (some ⟨g, 0, none⟩)) (do_move rfl (hk.at (List.mem_cons_of_mem _ (List.mem_cons_of_mem _ (List.mem_cons_of_mem _ (List.mem_cons_of_mem _ (List.mem_cons_self ..))))))) ?_
    clear hk; intro a hk
    refine list_k rfl rfl hk (by decide) (by repeat' (first | exact far_nil _ | refine far_cons (by decide) ?_)) (v := .pointer (some ⟨g, 0, none⟩)) (do_nilc rfl (hk.at (List.mem_cons_self ..))) ?_
    clear hk; intro a hk
    refine list_k rfl rfl hk (by decide) (by repeat' (first | exact far_nil _ | refine far_cons (by decide) ?_)) (v := .pointer (some ⟨g, 69, none⟩)) (do_fld48_2 rfl (hk.at (List.mem_cons_self ..))) ?_
    clear hk; intro a hk
    refine list_k rfl rfl hk (by decide) (by repeat' (first | exact far_nil _ | refine far_cons (by decide) ?_)) (v := .int .i64 ((m.length % 64 : Nat) : Int)) (do_ldB rfl Try.underlying3 rfl (hk.at (List.mem_cons_self ..)) b5 (dcells_nx hx5)) ?_
    clear hk; intro a hk
    refine list_k rfl rfl hk (by decide) (by repeat' (first | exact far_nil _ | refine far_cons (by decide) ?_)) (v := .int .i64 ((k : Nat) : Int)) (do_move rfl (hk.at (List.mem_cons_of_mem _ (List.mem_cons_of_mem _ (List.mem_cons_of_mem _ (List.mem_cons_of_mem _ (List.mem_cons_self ..))))))) ?_
    clear hk; intro a hk
    refine list_k rfl rfl hk (by decide) (by repeat' (first | exact far_nil _ | refine far_cons (by decide) ?_)) (v := .int .i64 ((m.length % 64 + k : Nat) : Int)) (do_addN rfl Try.underlying3 (hk.at (List.mem_cons_of_mem _ (List.mem_cons_self ..))) (hk.at (List.mem_cons_self ..)) (wrapI (by omega))) ?_
    clear hk; intro a hk
    refine list_k rfl rfl hk (by decide) (by repeat' (first | exact far_nil _ | refine far_cons (by decide) ?_)) (v := .pointer (some ⟨g, 0, none⟩)) (do_nilc rfl (hk.at (List.mem_cons_of_mem _ (List.mem_cons_of_mem _ (List.mem_cons_of_mem _ (List.mem_cons_of_mem _ (List.mem_cons_of_mem _ (List.mem_cons_self ..)))))))) ?_
    clear hk; intro a hk
    refine list_k rfl rfl hk (by decide) (by repeat' (first | exact far_nil _ | refine far_cons (by decide) ?_)) (v := .pointer (some ⟨g, 69, none⟩)) (do_fld48_2 rfl (hk.at (List.mem_cons_self ..))) ?_
    clear hk; intro a hk
    refine wp_store_cell rfl rfl (by kernel_rfl) (hk.at (List.mem_cons_self ..)) (hk.at (List.mem_cons_of_mem _ (List.mem_cons_of_mem _ (List.mem_cons_self ..)))) rfl b5 (by rw [dcells_length hx5]; decide) fun w6 b6 g6 s6 => ?_
    rw [dcells_setnx hx5] at b6
    refine keep_0 hk ?_
    clear hk; intro a hk
    refine hK6 _ _ ?_
    clear hK6
    have hk2 : Keeps 85 ([(6, .int .i64 ((k : Nat) : Int)), (4, .int .i64 ((n : Nat) : Int)), (5, .nilIface), (1, .slice ad n c), (0, .pointer (some ⟨g, 0, none⟩))]) a := by
      refine ⟨hk.1, hk.2.1, fun x hx => hk.2.2 x ?_⟩
      rcases List.mem_cons.1 hx with rfl | hx
      · exact List.mem_cons_of_mem _ (List.mem_cons_of_mem _ (List.mem_cons_of_mem _ (List.mem_cons_of_mem _ (List.mem_cons_of_mem _ (List.mem_cons_of_mem _ (List.mem_cons_of_mem _ (List.mem_cons_of_mem _ (List.mem_cons_self ..))))))))
      rcases List.mem_cons.1 hx with rfl | hx
      · exact List.mem_cons_of_mem _ (List.mem_cons_of_mem _ (List.mem_cons_of_mem _ (List.mem_cons_of_mem _ (List.mem_cons_of_mem _ (List.mem_cons_of_mem _ (List.mem_cons_of_mem _ (List.mem_cons_of_mem _ (List.mem_cons_of_mem _ (List.mem_cons_self ..)))))))))
      rcases List.mem_cons.1 hx with rfl | hx
      · exact List.mem_cons_of_mem _ (List.mem_cons_of_mem _ (List.mem_cons_of_mem _ (List.mem_cons_of_mem _ (List.mem_cons_of_mem _ (List.mem_cons_of_mem _ (List.mem_cons_of_mem _ (List.mem_cons_of_mem _ (List.mem_cons_of_mem _ (List.mem_cons_of_mem _ (List.mem_cons_self ..))))))))))
      rcases List.mem_cons.1 hx with rfl | hx
      · exact List.mem_cons_of_mem _ (List.mem_cons_of_mem _ (List.mem_cons_of_mem _ (List.mem_cons_of_mem _ (List.mem_cons_of_mem _ (List.mem_cons_of_mem _ (List.mem_cons_of_mem _ (List.mem_cons_of_mem _ (List.mem_cons_of_mem _ (List.mem_cons_of_mem _ (List.mem_cons_of_mem _ (List.mem_cons_self ..)))))))))))
      rcases List.mem_cons.1 hx with rfl | hx
      · exact List.mem_cons_of_mem _ (List.mem_cons_of_mem _ (List.mem_cons_of_mem _ (List.mem_cons_of_mem _ (List.mem_cons_of_mem _ (List.mem_cons_of_mem _ (List.mem_cons_of_mem _ (List.mem_cons_of_mem _ (List.mem_cons_of_mem _ (List.mem_cons_of_mem _ (List.mem_cons_of_mem _ (List.mem_cons_of_mem _ (List.mem_cons_self ..))))))))))))
      cases hx
    clear hk
    have hk := hk2
    clear hk2
    have g26 := grown_trans g25 g6
    refine wp_seq_k fun K7 hK7 => ?_
    have hxx : (x.take (m.length % 64) ++ p.take k) = (m ++ p.take k).drop (m.length / 64 * 64) := by
      rw [hxt, List.drop_append_of_le_length (by omega)]
    have HC : ∀ (a : Act) (w' : World), Keeps 85 [(6, .int .i64 ((k : Nat) : Int)), (4, .int .i64 ((n : Nat) : Int)), (5, .nilIface), (1, .slice ad n c), (0, .pointer (some ⟨g, 0, none⟩))] a → Dg w' g (m ++ p.take k) (m.length + n) t → ((m ++ p.take k).length % 64 = 0 ∨ n - k = 0) → w2.grownBy w' (some g) → K7 a w' := by
      intro a w7 hk hD7 hm7 g7
      refine hK7 _ _ ?_
      refine wp_region_lit ?_
      refine list_k rfl rfl hk (by decide) (by repeat' (first | exact far_nil _ | refine far_cons (by decide) ?_)) (v := .slice ad n c) (do_move rfl (hk.at (List.mem_cons_of_mem _ (List.mem_cons_of_mem _ (List.mem_cons_of_mem _ (List.mem_cons_self ..)))))) ?_
      clear hk; intro a hk
      refine list_k rfl rfl hk (by decide) (by repeat' (first | exact far_nil _ | refine far_cons (by decide) ?_)) (v := .int .i64 ((k : Nat) : Int)) (do_move rfl (hk.at (List.mem_cons_of_mem _ (List.mem_cons_self ..)))) ?_
      clear hk; intro a hk
      refine list_k rfl rfl hk (by decide) (by repeat' (first | exact far_nil _ | refine far_cons (by decide) ?_)) (v := .slice (tailA c k ad) (n - k) (c - k)) (do_tail rfl Try.underlying22 (by kernel_rfl) (fun h0 q hq => (hg q hq (by omega)).1) (hk.at (List.mem_cons_of_mem _ (List.mem_cons_self ..))) (hk.at (List.mem_cons_self ..)) (by omega) (by omega)) ?_
      clear hk; intro a hk
      have hk2 : Keeps 85 ([(58, .slice (tailA c k ad) (n - k) (c - k)), (57, .int .i64 ((k : Nat) : Int)), (56, .slice ad n c), (6, .int .i64 ((k : Nat) : Int)), (4, .int .i64 ((n : Nat) : Int)), (5, .nilIface), (0, .pointer (some ⟨g, 0, none⟩))]) a := by
        refine ⟨hk.1, hk.2.1, fun x hx => hk.2.2 x ?_⟩
        rcases List.mem_cons.1 hx with rfl | hx
        · exact List.mem_cons_self ..
        rcases List.mem_cons.1 hx with rfl | hx
        · exact List.mem_cons_of_mem _ (List.mem_cons_self ..)
        rcases List.mem_cons.1 hx with rfl | hx
        · exact List.mem_cons_of_mem _ (List.mem_cons_of_mem _ (List.mem_cons_self ..))
        rcases List.mem_cons.1 hx with rfl | hx
        · exact List.mem_cons_of_mem _ (List.mem_cons_of_mem _ (List.mem_cons_of_mem _ (List.mem_cons_self ..)))
        rcases List.mem_cons.1 hx with rfl | hx
        · exact List.mem_cons_of_mem _ (List.mem_cons_of_mem _ (List.mem_cons_of_mem _ (List.mem_cons_of_mem _ (List.mem_cons_self ..))))
        rcases List.mem_cons.1 hx with rfl | hx
        · exact List.mem_cons_of_mem _ (List.mem_cons_of_mem _ (List.mem_cons_of_mem _ (List.mem_cons_of_mem _ (List.mem_cons_of_mem _ (List.mem_cons_self ..)))))
        rcases List.mem_cons.1 hx with rfl | hx
        · exact List.mem_cons_of_mem _ (List.mem_cons_of_mem _ (List.mem_cons_of_mem _ (List.mem_cons_of_mem _ (List.mem_cons_of_mem _ (List.mem_cons_of_mem _ (List.mem_cons_of_mem _ (List.mem_cons_self ..)))))))
        cases hx
      clear hk
      have hk := hk2
      clear hk2
      refine list_k rfl rfl hk (by decide) (by repeat' (first | exact far_nil _ | refine far_cons (by decide) ?_)) (v := .slice (tailA c k ad) (n - k) (c - k)) (do_assign rfl (hk.at (List.mem_cons_self ..))) ?_
      clear hk; intro a hk
      have hk2 : Keeps 85 [(4, .int .i64 ((n : Nat) : Int)), (5, .nilIface), (1, .slice (tailA c k ad) (n - k) (c - k)), (0, .pointer (some ⟨g, 0, none⟩))] a := hk.sub (fun x hx => by simp at hx ⊢; rcases hx with rfl | rfl | rfl | rfl <;> simp)
      have hr7 : Rd w7 ad p := rd_grown hr2 g7 (fun q hq h0 => (hg q hq (by omega)).2)
      refine HT a w7 (m ++ p.take k) (p.drop k) _ _ _ hk2 hD7 hm7 (hr7.tailA (by omega)) (by rw [List.length_drop]; omega) (by omega) ?_ (grown_trans g2 g7) (by rw [List.append_assoc, List.take_append_drop])
      intro q hq h0
      rcases tailA_cases hq with ⟨hk0, he⟩ | ⟨hk0, hsp, q0, he, hbl⟩
      · exact hg q he (by omega)
      · exact ⟨hsp, by rw [← hbl]; exact (hg q0 he (by omega)).2⟩
    clear hK7
    refine wp_seq_k fun K8 hK8 => ?_
    refine wp_region_lit ?_
    refine list_k rfl rfl hk (by decide) (by repeat' (first | exact far_nil _ | refine far_cons (by decide) ?_)) (v := .pointer (some ⟨g, 0, none⟩)) (do_move rfl (hk.at (List.mem_cons_of_mem _ (List.mem_cons_of_mem _ (List.mem_cons_of_mem _ (List.mem_cons_of_mem _ (List.mem_cons_self ..))))))) ?_
    clear hk; intro a hk
    refine list_k rfl rfl hk (by decide) (by repeat' (first | exact far_nil _ | refine far_cons (by decide) ?_)) (v := .pointer (some ⟨g, 0, none⟩)) (do_nilc rfl (hk.at (List.mem_cons_self ..))) ?_
    clear hk; intro a hk
    refine list_k rfl rfl hk (by decide) (by repeat' (first | exact far_nil _ | refine far_cons (by decide) ?_)) (v := .pointer (some ⟨g, 69, none⟩)) (do_fld48_2 rfl (hk.at (List.mem_cons_self ..))) ?_
    clear hk; intro a hk
    refine list_k rfl rfl hk (by decide) (by repeat' (first | exact far_nil _ | refine far_cons (by decide) ?_)) (v := .int .i64 ((m.length % 64 + k : Nat) : Int)) (do_ldB rfl Try.underlying3 rfl (hk.at (List.mem_cons_self ..)) b6 (dcells_nx hx5)) ?_
    clear hk; intro a hk
    refine list_k rfl rfl hk (by decide) (by repeat' (first | exact far_nil _ | refine far_cons (by decide) ?_)) (v := .bool (decide (m.length % 64 + k = 64))) (do_eql rfl Try.underlying3 (hk.at (List.mem_cons_self ..)) rfl) ?_
    clear hk; intro a hk
    refine hK8 _ _ (wp_cond (hk.at (List.mem_cons_self ..)) ?_)
    clear hK8
    have hk2 : Keeps 85 ([(6, .int .i64 ((k : Nat) : Int)), (4, .int .i64 ((n : Nat) : Int)), (5, .nilIface), (1, .slice ad n c), (0, .pointer (some ⟨g, 0, none⟩))]) a := by
      refine ⟨hk.1, hk.2.1, fun x hx => hk.2.2 x ?_⟩
      rcases List.mem_cons.1 hx with rfl | hx
      · exact List.mem_cons_of_mem _ (List.mem_cons_of_mem _ (List.mem_cons_of_mem _ (List.mem_cons_of_mem _ (List.mem_cons_of_mem _ (List.mem_cons_self ..)))))
      rcases List.mem_cons.1 hx with rfl | hx
      · exact List.mem_cons_of_mem _ (List.mem_cons_of_mem _ (List.mem_cons_of_mem _ (List.mem_cons_of_mem _ (List.mem_cons_of_mem _ (List.mem_cons_of_mem _ (List.mem_cons_self ..))))))
      rcases List.mem_cons.1 hx with rfl | hx
      · exact List.mem_cons_of_mem _ (List.mem_cons_of_mem _ (List.mem_cons_of_mem _ (List.mem_cons_of_mem _ (List.mem_cons_of_mem _ (List.mem_cons_of_mem _ (List.mem_cons_of_mem _ (List.mem_cons_self ..)))))))
      rcases List.mem_cons.1 hx with rfl | hx
      · exact List.mem_cons_of_mem _ (List.mem_cons_of_mem _ (List.mem_cons_of_mem _ (List.mem_cons_of_mem _ (List.mem_cons_of_mem _ (List.mem_cons_of_mem _ (List.mem_cons_of_mem _ (List.mem_cons_of_mem _ (List.mem_cons_self ..))))))))
      rcases List.mem_cons.1 hx with rfl | hx
      · exact List.mem_cons_of_mem _ (List.mem_cons_of_mem _ (List.mem_cons_of_mem _ (List.mem_cons_of_mem _ (List.mem_cons_of_mem _ (List.mem_cons_of_mem _ (List.mem_cons_of_mem _ (List.mem_cons_of_mem _ (List.mem_cons_of_mem _ (List.mem_cons_self ..)))))))))
      cases hx
    clear hk
    have hk := hk2
    clear hk2
    have hk2 : Keeps 85 [(6, .int .i64 ((k : Nat) : Int)), (4, .int .i64 ((n : Nat) : Int)), (5, .nilIface), (1, .slice ad n c), (0, .pointer (some ⟨g, 0, none⟩))] a := hk.sub (fun x hx => by simp at hx ⊢; rcases hx with rfl | rfl | rfl | rfl | rfl <;> simp)
    clear hk
    have hk := hk2
    clear hk2
    by_cases hf : m.length % 64 + k = 64
    case neg =>
      rw [decide_eq_false hf]
      obtain rfl : k = n := by omega
      refine wp_skip (HC _ _ hk ⟨_, hx5, ?_, ?_⟩ (.inr (by omega)) g26)
      · rw [show (m ++ p.take k).length % 64 = m.length % 64 + k by rw [List.length_append, hpt]; omega, show (m ++ p.take k).length / 64 * 64 = m.length / 64 * 64 by rw [List.length_append, hpt]; omega, ← hxx, List.take_append_of_le_length (by simp; omega), List.take_of_length_le (by simp; omega)]
      · rw [sums_less _ _ (by rw [hpt]; omega), show (m ++ p.take k).length % 64 = m.length % 64 + k by rw [List.length_append, hpt]; omega]
        exact b6
    case pos =>
      rw [decide_eq_true hf]
      refine wp_seq_k fun K9 hK9 => ?_
      have hr6 := dcells_x b6 hx5
      refine wp_region_lit ?_
      refine list_k rfl rfl hk (by decide) (by repeat' (first | exact far_nil _ | refine far_cons (by decide) ?_)) (v := .pointer (some ⟨g, 0, none⟩)) (do_move rfl (hk.at (List.mem_cons_of_mem _ (List.mem_cons_of_mem _ (List.mem_cons_of_mem _ (List.mem_cons_of_mem _ (List.mem_cons_self ..))))))) ?_
      clear hk; intro a hk
      refine list_k rfl rfl hk (by decide) (by repeat' (first | exact far_nil _ | refine far_cons (by decide) ?_)) (v := .pointer (some ⟨g, 0, none⟩)) (do_move rfl (hk.at (List.mem_cons_of_mem _ (List.mem_cons_of_mem _ (List.mem_cons_of_mem _ (List.mem_cons_of_mem _ (List.mem_cons_of_mem _ (List.mem_cons_self ..)))))))) ?_
      clear hk; intro a hk
      refine list_k rfl rfl hk (by decide) (by repeat' (first | exact far_nil _ | refine far_cons (by decide) ?_)) (v := .pointer (some ⟨g, 0, none⟩)) (do_nilc rfl (hk.at (List.mem_cons_self ..))) ?_
      clear hk; intro a hk
      refine list_k rfl rfl hk (by decide) (by repeat' (first | exact far_nil _ | refine far_cons (by decide) ?_)) (v := .pointer (some ⟨g, 5, none⟩)) (do_fld48_1 rfl (hk.at (List.mem_cons_self ..))) ?_
      clear hk; intro a hk
      refine list_k rfl rfl hk (by decide) (by repeat' (first | exact far_nil _ | refine far_cons (by decide) ?_)) (v := .slice (some ⟨g, 5, none⟩) 64 64) (do_xall rfl (hk.at (List.mem_cons_self ..))) ?_
      clear hk; intro a hk
      refine wp_call (R := fun e w' => e = .returned (.tuple #[]) ∧ Blk w' g (hcells (blks 1 (sums m) (x.take (m.length % 64) ++ p.take k ++ x.drop (m.length % 64 + (p.take k).length))) ++ (bvs (x.take (m.length % 64) ++ p.take k ++ x.drop (m.length % 64 + (p.take k).length)) ++ [.int .i64 ((m.length % 64 + k : Nat) : Int), .int .u64 ((m.length + n : Nat) : Int)])) t ∧ w6.grownBy w' (some g)) rfl (do_call2 rfl (hk.at (List.mem_cons_of_mem _ (List.mem_cons_of_mem _ (List.mem_cons_of_mem _ (List.mem_cons_of_mem _ (List.mem_cons_self ..)))))) (hk.at (List.mem_cons_self ..)) (blk_enter _ _)) (block_ok g (sums m) (bvs (x.take (m.length % 64) ++ p.take k ++ x.drop (m.length % 64 + (p.take k).length)) ++ [.int .i64 ((m.length % 64 + k : Nat) : Int), .int .u64 ((m.length + n : Nat) : Int)]) t 1 (some ⟨g, 5, none⟩) _ 64 64 _ b6 hr6 hx5 rfl (by decide)) ?_
      rintro e w7 ⟨rfl, b7, g7⟩
      refine ⟨_, rfl, ?_⟩
      have b7' : Blk w7 g (dcells (blks 1 (sums m) (x.take (m.length % 64) ++ p.take k ++ x.drop (m.length % 64 + (p.take k).length))) (x.take (m.length % 64) ++ p.take k ++ x.drop (m.length % 64 + (p.take k).length)) (m.length % 64 + k) (m.length + n)) t := b7
      clear b7
      refine keep_k (v := .tuple #[]) hk (by decide) (by repeat' (first | exact far_nil _ | refine far_cons (by decide) ?_)) ?_
      clear hk; intro a hk
      refine hK9 _ _ ?_
      clear hK9
      have hk2 : Keeps 85 ([(6, .int .i64 ((k : Nat) : Int)), (4, .int .i64 ((n : Nat) : Int)), (5, .nilIface), (1, .slice ad n c), (0, .pointer (some ⟨g, 0, none⟩))]) a := by
        refine ⟨hk.1, hk.2.1, fun x hx => hk.2.2 x ?_⟩
        rcases List.mem_cons.1 hx with rfl | hx
        · exact List.mem_cons_of_mem _ (List.mem_cons_of_mem _ (List.mem_cons_of_mem _ (List.mem_cons_of_mem _ (List.mem_cons_of_mem _ (List.mem_cons_of_mem _ (List.mem_cons_self ..))))))
        rcases List.mem_cons.1 hx with rfl | hx
        · exact List.mem_cons_of_mem _ (List.mem_cons_of_mem _ (List.mem_cons_of_mem _ (List.mem_cons_of_mem _ (List.mem_cons_of_mem _ (List.mem_cons_of_mem _ (List.mem_cons_of_mem _ (List.mem_cons_self ..)))))))
        rcases List.mem_cons.1 hx with rfl | hx
        · exact List.mem_cons_of_mem _ (List.mem_cons_of_mem _ (List.mem_cons_of_mem _ (List.mem_cons_of_mem _ (List.mem_cons_of_mem _ (List.mem_cons_of_mem _ (List.mem_cons_of_mem _ (List.mem_cons_of_mem _ (List.mem_cons_self ..))))))))
        rcases List.mem_cons.1 hx with rfl | hx
        · exact List.mem_cons_of_mem _ (List.mem_cons_of_mem _ (List.mem_cons_of_mem _ (List.mem_cons_of_mem _ (List.mem_cons_of_mem _ (List.mem_cons_of_mem _ (List.mem_cons_of_mem _ (List.mem_cons_of_mem _ (List.mem_cons_of_mem _ (List.mem_cons_self ..)))))))))
        rcases List.mem_cons.1 hx with rfl | hx
        · exact List.mem_cons_of_mem _ (List.mem_cons_of_mem _ (List.mem_cons_of_mem _ (List.mem_cons_of_mem _ (List.mem_cons_of_mem _ (List.mem_cons_of_mem _ (List.mem_cons_of_mem _ (List.mem_cons_of_mem _ (List.mem_cons_of_mem _ (List.mem_cons_of_mem _ (List.mem_cons_self ..))))))))))
        cases hx
      clear hk
      have hk := hk2
      clear hk2
      refine wp_region_lit ?_
      refine list_k rfl rfl hk (by decide) (by repeat' (first | exact far_nil _ | refine far_cons (by decide) ?_)) (v := .pointer (some ⟨g, 0, none⟩)) (do_move rfl (hk.at (List.mem_cons_of_mem _ (List.mem_cons_of_mem _ (List.mem_cons_of_mem _ (List.mem_cons_of_mem _ (List.mem_cons_self ..))))))) ?_
      clear hk; intro a hk
      refine list_k rfl rfl hk (by decide) (by repeat' (first | exact far_nil _ | refine far_cons (by decide) ?_)) (v := .pointer (some ⟨g, 0, none⟩)) (do_nilc rfl (hk.at (List.mem_cons_self ..))) ?_
      clear hk; intro a hk
      refine list_k rfl rfl hk (by decide) (by repeat' (first | exact far_nil _ | refine far_cons (by decide) ?_)) (v := .pointer (some ⟨g, 69, none⟩)) (do_fld48_2 rfl (hk.at (List.mem_cons_self ..))) ?_
      clear hk; intro a hk
      refine wp_store_cell (v := .int .i64 ((0 : Nat) : Int)) rfl rfl (by kernel_rfl) (hk.at (List.mem_cons_self ..)) rfl rfl b7' (by rw [dcells_length hx5]; decide) fun w8 b8 g8 s8 => ?_
      have b8' := b8
      rw [dcells_setnx hx5] at b8'
      refine keep_0 hk ?_
      clear hk; intro a hk
      have hk2 : Keeps 85 ([(6, .int .i64 ((k : Nat) : Int)), (4, .int .i64 ((n : Nat) : Int)), (5, .nilIface), (1, .slice ad n c), (0, .pointer (some ⟨g, 0, none⟩))]) a := by
        refine ⟨hk.1, hk.2.1, fun x hx => hk.2.2 x ?_⟩
        rcases List.mem_cons.1 hx with rfl | hx
        · exact List.mem_cons_of_mem _ (List.mem_cons_of_mem _ (List.mem_cons_of_mem _ (List.mem_cons_self ..)))
        rcases List.mem_cons.1 hx with rfl | hx
        · exact List.mem_cons_of_mem _ (List.mem_cons_of_mem _ (List.mem_cons_of_mem _ (List.mem_cons_of_mem _ (List.mem_cons_self ..))))
        rcases List.mem_cons.1 hx with rfl | hx
        · exact List.mem_cons_of_mem _ (List.mem_cons_of_mem _ (List.mem_cons_of_mem _ (List.mem_cons_of_mem _ (List.mem_cons_of_mem _ (List.mem_cons_self ..)))))
        rcases List.mem_cons.1 hx with rfl | hx
        · exact List.mem_cons_of_mem _ (List.mem_cons_of_mem _ (List.mem_cons_of_mem _ (List.mem_cons_of_mem _ (List.mem_cons_of_mem _ (List.mem_cons_of_mem _ (List.mem_cons_self ..))))))
        rcases List.mem_cons.1 hx with rfl | hx
        · exact List.mem_cons_of_mem _ (List.mem_cons_of_mem _ (List.mem_cons_of_mem _ (List.mem_cons_of_mem _ (List.mem_cons_of_mem _ (List.mem_cons_of_mem _ (List.mem_cons_of_mem _ (List.mem_cons_self ..)))))))
        cases hx
      clear hk
      have hk := hk2
      clear hk2
      have hk2 : Keeps 85 [(6, .int .i64 ((k : Nat) : Int)), (4, .int .i64 ((n : Nat) : Int)), (5, .nilIface), (1, .slice ad n c), (0, .pointer (some ⟨g, 0, none⟩))] a := hk.sub (fun x hx => by simp at hx ⊢; rcases hx with rfl | rfl | rfl | rfl | rfl <;> simp)
      have hml : (m ++ p.take k).length % 64 = 0 := by rw [List.length_append, hpt]; omega
      have hx0 : x.drop (m.length % 64 + (p.take k).length) = [] := List.drop_of_length_le (by omega)
      refine HC _ _ hk2 ⟨_, hx5, ?_, ?_⟩ (.inl hml) (grown_trans g26 (grown_trans g7 g8))
      · rw [hml, List.take_zero, List.drop_of_length_le]
        omega
      · have hs : sums (m ++ p.take k) = blks 1 (sums m) (x.take (m.length % 64) ++ p.take k ++ x.drop (m.length % 64 + (p.take k).length)) := by
          rw [sums_fill _ _ (by rw [hpt]; omega), hx0, List.append_nil, hxt]
        rw [hs, hml]
        exact b8'
end Go.Proofs.Ytjmmkjdlkecmhaa
