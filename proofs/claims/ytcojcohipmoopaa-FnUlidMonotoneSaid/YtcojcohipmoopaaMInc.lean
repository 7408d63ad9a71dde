/- Contracts: ULID's increment; MonotonicRead. -/
import Derived.Test.YtcojcohipmoopaaMRand
namespace Go.Proofs.Ytcojcohipmoopaa
open Go.RowKit
set_option linter.unusedVariables false
set_option linter.unusedSimpArgs false
theorem rnd_enter (u : Value) (w : World) : (callFunc 42 #[u]).run Try.prog w = .ok (.enter 42 #[u]) w := by
  have h := Try.func42
  go_simp
theorem add_enter (u v : Value) (w : World) : (callFunc 43 #[u, v]).run Try.prog w = .ok (.enter 43 #[u, v]) w := by
  have h := Try.func43
  go_simp
theorem set_enter (u v : Value) (w : World) : (callFunc 41 #[u, v]).run Try.prog w = .ok (.enter 41 #[u, v]) w := by
  have h := Try.func41
  go_simp
theorem app_enter (u v : Value) (w : World) : (callFunc 40 #[u, v]).run Try.prog w = .ok (.enter 40 #[u, v]) w := by
  have h := Try.func40
  go_simp
theorem zero_enter (u : Value) (w : World) : (callFunc 39 #[u]).run Try.prog w = .ok (.enter 39 #[u]) w := by
  have h := Try.func39
  go_simp
theorem inc_enter (u : Value) (w : World) : (callFunc 38 #[u]).run Try.prog w = .ok (.enter 38 #[u]) w := by
  have h := Try.func38
  go_simp
theorem splice_get (cs vs : List Value) (off i : Nat) (hi : i < vs.length) (h : off + vs.length ≤ cs.length) : (splice cs off vs)[off + i]? = vs[i]? := by
  unfold splice
  rw [List.getElem?_append_right (by rw [List.length_take]; omega), List.length_take, show off + i - min off cs.length = i by omega, List.getElem?_append_left hi]
theorem rd_splice {w : World} {g off : Nat} {cur : List Value} {t : TypeId} {bs : List UInt8} (h : Blk w g (splice cur off (bvs bs)) t) (hfit : off + bs.length ≤ cur.length) (hl : bs.length ≤ 1000) : Rd w (some ⟨g, off, none⟩) bs := by
  refine ⟨by omega, .inr ⟨g, off, rfl, fun i hi => ?_⟩⟩
  rw [h.cell, splice_get _ _ _ _ (by rw [bvs_length]; exact hi) (by rw [bvs_length]; exact hfit)]
  exact bvs_get bs i hi
section
variable {a : Act} {w : World} {o : Oper} {x : Operand}
theorem do_notT (ho : o.op = .unOp .not 4 x) (hx : a.eval x = .bool true) : (execOp a.eval o).run Try.prog w = .ok (.value (.bool false)) w := by
  unfold execOp; simp only [ho, hx]; go_simp
theorem do_notF (ho : o.op = .unOp .not 4 x) (hx : a.eval x = .bool false) : (execOp a.eval o).run Try.prog w = .ok (.value (.bool true)) w := by
  unfold execOp; simp only [ho, hx]; go_simp
theorem do_eqlErr {u : TypeId} (ho : o.op = .binOp .eql 41 x (.const .nilIface) u) (hx : a.eval x = .nilIface) : (execOp a.eval o).run Try.prog w = .ok (.value (.bool true)) w := by
  have hu := Try.underlying41
  have hc : a.eval (.const .nilIface) = .nilIface := rfl
  have hg : (eqGuard BinOp.eql 41 x (.const .nilIface) .nilIface .nilIface) = (pure () : Sem Unit) := by cases x <;> rfl
  unfold execOp; simp only [ho, hx, hc, hg]; go_simp
end
/-- What a reading leaves: the number goes on, or is read anew. -/
def MPost (gm gs ms0 ms inc E x : Nat) (t ts : TypeId) (g off : Nat) (cur : List Value) (tg : TypeId) (w w' : World) : Prop :=
  ∃ (E' x' : Nat) (rnd' : List UInt8), Blk w' gm (mE gs ms inc (E') rnd') t ∧ rnd'.length = 8 ∧ zerosFrom (blOf inc) rnd' ∧ Blk w' gs [.int .u32 ((x' : Nat) : Int)] ts ∧ x' < 4294967296 ∧ Blk w' g (splice cur off (bvs (be 10 E'))) tg ∧ Sets w w' [gm, gs, g] ∧ ((E ≠ 0 ∧ ms0 = ms ∧ E + 1 ≤ E' ∧ E' ≤ E + inc) ∨ (¬ (E ≠ 0 ∧ ms0 = ms) ∧ E' = num (sb 10 x)))
theorem do_fld56_1 {a : Act} {w : World} {o : Oper} {x : Operand} (ho : o.op = .fieldAddr 56 x 1) {g k : Nat} (hx : a.eval x = .pointer (some ⟨g, k, none⟩)) : (execOp a.eval o).run Try.prog w = .ok (.value (.pointer (some ⟨g, k + 1, none⟩))) w := by
  unfold execOp
  simp only [ho, hx]
  go_simp
theorem do_fld56_3 {a : Act} {w : World} {o : Oper} {x : Operand} (ho : o.op = .fieldAddr 56 x 3) {g k : Nat} (hx : a.eval x = .pointer (some ⟨g, k, none⟩)) : (execOp a.eval o).run Try.prog w = .ok (.value (.pointer (some ⟨g, k + 3, none⟩))) w := by
  unfold execOp
  simp only [ho, hx]
  go_simp
set_option maxRecDepth 100000 in
theorem inc_ok (gm gs ms inc E x : Nat) (rnd : List UInt8) (t ts : TypeId) (w : World) (hB : Blk w gm (mE gs ms inc (E) rnd) t) (hr8 : rnd.length = 8) (hS : Blk w gs [.int .u32 ((x : Nat) : Int)] ts) (hx : x < 4294967296) (hne : gm ≠ gs) (hi0 : 1 ≤ inc) (hinc : inc ≤ 1099511627776) (hz : zerosFrom (blOf inc) rnd) (hE : E + inc < 1208925819614629174706176) :
    Calls Try.prog 38 #[.pointer (some ⟨gm, 0, none⟩)] w fun e w' => ∃ (r x' : Nat) (rnd' : List UInt8), e = .returned .nilIface ∧ 1 ≤ r ∧ r ≤ inc ∧ Blk w' gm (mE gs ms inc (E + r) rnd') t ∧ rnd'.length = 8 ∧ zerosFrom (blOf inc) rnd' ∧ Blk w' gs [.int .u32 ((x' : Nat) : Int)] ts ∧ x' < 4294967296 ∧ Sets w w' [gm, gs] := by
  go_enter Try.func38, Try.ntmps38
  refine of_keeps 19 [(0, .pointer (some ⟨gm, 0, none⟩))] ⟨by kernel_rfl, rfl, fun x hx => by simp at hx; rcases hx with rfl; rfl⟩ fun a hk => ?_
  refine wp_seq_k fun K0 hK0 => ?_
  refine wp_region_lit ?_
  refine list_k rfl rfl hk (by decide) (by repeat' (first | exact far_nil _ | refine far_cons (by decide) ?_)) (v := .nilIface) (do_assign rfl rfl) ?_
  clear hk; intro a hk
  refine hK0 _ _ ?_
  clear hK0
  have hk2 : Keeps 19 ([(0, .pointer (some ⟨gm, 0, none⟩))]) a := by
    refine ⟨hk.1, hk.2.1, fun x hx => hk.2.2 x ?_⟩
    rcases List.mem_cons.1 hx with rfl | hx
    · exact List.mem_cons_of_mem _ (List.mem_cons_self ..)
    cases hx
  clear hk
  have hk := hk2
  clear hk2
  refine wp_seq_k fun K1 hK1 => ?_
  refine wp_seq_k fun K2 hK2 => ?_
  refine wp_region_lit ?_
  refine list_k rfl rfl hk (by decide) (by repeat' (first | exact far_nil _ | refine far_cons (by decide) ?_)) (v := .pointer (some ⟨gm, 0, none⟩)) (do_move rfl (hk.at (List.mem_cons_self ..))) ?_
  clear hk; intro a hk
  refine wp_call rfl (do_call1 rfl (hk.at (List.mem_cons_self ..)) (rnd_enter _)) (random_ok gm gs ms inc _ _ x rnd t ts _ hB hr8 hS hx hne hi0 hinc hz) ?_
  rintro e w2 ⟨r, x2, rnd2, rfl, hr1, hri, B2, l2, z2, S2, hx2, T2, y2⟩
  refine ⟨_, rfl, ?_⟩
  refine keep_k (v := .tuple #[.int .u64 ((r : Nat) : Int), .nilIface]) hk (by decide) (by repeat' (first | exact far_nil _ | refine far_cons (by decide) ?_)) ?_
  clear hk; intro a hk
  refine list_k rfl rfl hk (by decide) (by repeat' (first | exact far_nil _ | refine far_cons (by decide) ?_)) (v := .tuple #[.int .u64 ((r : Nat) : Int), .nilIface]) (do_move rfl (hk.at (List.mem_cons_self ..))) ?_
  clear hk; intro a hk
  refine list_k rfl rfl hk (by decide) (by repeat' (first | exact far_nil _ | refine far_cons (by decide) ?_)) (v := .int .u64 ((r : Nat) : Int)) (do_extract rfl (hk.at (List.mem_cons_self ..)) rfl) ?_
  clear hk; intro a hk
  refine list_k rfl rfl hk (by decide) (by repeat' (first | exact far_nil _ | refine far_cons (by decide) ?_)) (v := .nilIface) (do_extract rfl (hk.at (List.mem_cons_of_mem _ (List.mem_cons_self ..))) rfl) ?_
  clear hk; intro a hk
  refine list_k rfl rfl hk (by decide) (by repeat' (first | exact far_nil _ | refine far_cons (by decide) ?_)) (v := .int .u64 ((r : Nat) : Int)) (do_assign rfl (hk.at (List.mem_cons_of_mem _ (List.mem_cons_self ..)))) ?_
  clear hk; intro a hk
  refine list_k rfl rfl hk (by decide) (by repeat' (first | exact far_nil _ | refine far_cons (by decide) ?_)) (v := .nilIface) (do_assign rfl (hk.at (List.mem_cons_of_mem _ (List.mem_cons_self ..)))) ?_
  clear hk; intro a hk
  refine hK2 _ _ ?_
  clear hK2
  have hk2 : Keeps 19 ([(4, .nilIface), (3, .int .u64 ((r : Nat) : Int)), (0, .pointer (some ⟨gm, 0, none⟩))]) a := by
    refine ⟨hk.1, hk.2.1, fun x hx => hk.2.2 x ?_⟩
    rcases List.mem_cons.1 hx with rfl | hx
    · exact List.mem_cons_self ..
    rcases List.mem_cons.1 hx with rfl | hx
    · exact List.mem_cons_of_mem _ (List.mem_cons_self ..)
    rcases List.mem_cons.1 hx with rfl | hx
    · exact List.mem_cons_of_mem _ (List.mem_cons_of_mem _ (List.mem_cons_of_mem _ (List.mem_cons_of_mem _ (List.mem_cons_of_mem _ (List.mem_cons_of_mem _ (List.mem_cons_of_mem _ (List.mem_cons_self ..)))))))
    cases hx
  clear hk
  have hk := hk2
  clear hk2
  refine wp_seq_k fun K2 hK2 => ?_
  refine wp_region_lit ?_
  refine list_k rfl rfl hk (by decide) (by repeat' (first | exact far_nil _ | refine far_cons (by decide) ?_)) (v := .nilIface) (do_move rfl (hk.at (List.mem_cons_self ..))) ?_
  clear hk; intro a hk
  refine list_k rfl rfl hk (by decide) (by repeat' (first | exact far_nil _ | refine far_cons (by decide) ?_)) (v := .bool false) (do_neqErr rfl (hk.at (List.mem_cons_self ..))) ?_
  clear hk; intro a hk
  refine hK2 _ _ (wp_cond_false (hk.at (List.mem_cons_self ..)) ?_)
  clear hK2
  have hk2 : Keeps 19 ([(4, .nilIface), (3, .int .u64 ((r : Nat) : Int)), (0, .pointer (some ⟨gm, 0, none⟩))]) a := by
    refine ⟨hk.1, hk.2.1, fun x hx => hk.2.2 x ?_⟩
    rcases List.mem_cons.1 hx with rfl | hx
    · exact List.mem_cons_of_mem _ (List.mem_cons_of_mem _ (List.mem_cons_self ..))
    rcases List.mem_cons.1 hx with rfl | hx
    · exact List.mem_cons_of_mem _ (List.mem_cons_of_mem _ (List.mem_cons_of_mem _ (List.mem_cons_self ..)))
    rcases List.mem_cons.1 hx with rfl | hx
    · exact List.mem_cons_of_mem _ (List.mem_cons_of_mem _ (List.mem_cons_of_mem _ (List.mem_cons_of_mem _ (List.mem_cons_self ..))))
    cases hx
  clear hk
  have hk := hk2
  clear hk2
  refine wp_seq_k fun K2 hK2 => ?_
  refine wp_region_lit ?_
  refine list_k rfl rfl hk (by decide) (by repeat' (first | exact far_nil _ | refine far_cons (by decide) ?_)) (v := .pointer (some ⟨gm, 0, none⟩)) (do_move rfl (hk.at (List.mem_cons_of_mem _ (List.mem_cons_of_mem _ (List.mem_cons_self ..))))) ?_
  clear hk; intro a hk
  refine list_k rfl rfl hk (by decide) (by repeat' (first | exact far_nil _ | refine far_cons (by decide) ?_)) (v := .pointer (some ⟨gm, 0, none⟩)) (do_nilc rfl (hk.at (List.mem_cons_self ..))) ?_
  clear hk; intro a hk
  refine list_k rfl rfl hk (by decide) (by repeat' (first | exact far_nil _ | refine far_cons (by decide) ?_)) (v := .pointer (some ⟨gm, 3, none⟩)) (do_fld56_3 rfl (hk.at (List.mem_cons_self ..))) ?_
  clear hk; intro a hk
  refine list_k rfl rfl hk (by decide) (by repeat' (first | exact far_nil _ | refine far_cons (by decide) ?_)) (v := .int .u64 ((r : Nat) : Int)) (do_move rfl (hk.at (List.mem_cons_of_mem _ (List.mem_cons_of_mem _ (List.mem_cons_of_mem _ (List.mem_cons_of_mem _ (List.mem_cons_self ..))))))) ?_
  clear hk; intro a hk
  refine wp_call rfl (do_call2 rfl (hk.at (List.mem_cons_of_mem _ (List.mem_cons_self ..))) (hk.at (List.mem_cons_self ..)) (add_enter _ _)) (uAdd_ok gm gs ms inc E r rnd2 t _ B2 l2 (by omega) (by omega)) ?_
  rintro e w3 ⟨rfl, B3, g3⟩
  refine ⟨_, rfl, ?_⟩
  refine keep_k (v := .bool false) hk (by decide) (by repeat' (first | exact far_nil _ | refine far_cons (by decide) ?_)) ?_
  clear hk; intro a hk
  refine hK2 _ _ (wp_cond_false (hk.at (List.mem_cons_self ..)) (wp_skip (hK1 _ _ ?_)))
  clear hK2 hK1
  have hk2 : Keeps 19 ([(0, .pointer (some ⟨gm, 0, none⟩))]) a := by
    refine ⟨hk.1, hk.2.1, fun x hx => hk.2.2 x ?_⟩
    rcases List.mem_cons.1 hx with rfl | hx
    · exact List.mem_cons_of_mem _ (List.mem_cons_of_mem _ (List.mem_cons_of_mem _ (List.mem_cons_of_mem _ (List.mem_cons_of_mem _ (List.mem_cons_of_mem _ (List.mem_cons_of_mem _ (List.mem_cons_self ..)))))))
    cases hx
  clear hk
  have hk := hk2
  clear hk2
  refine wp_seq_k fun K2 hK2 => ?_
  refine wp_region_lit ?_
  refine list_k rfl rfl hk (by decide) (by repeat' (first | exact far_nil _ | refine far_cons (by decide) ?_)) (v := .nilIface) (do_assign rfl rfl) ?_
  clear hk; intro a hk
  refine hK2 _ _ (wp_ret ?_)
  refine ret_tmp1 (t := 2) rfl hk.2.1 (hk.at (List.mem_cons_self ..)) ?_
  exact ⟨r, x2, rnd2, rfl, hr1, hri, B3, l2, z2, S2.grown g3 (by intro e; exact hne (Option.some.inj e).symm), hx2, T2.trans ((sets_grown g3).mono (fun k hk => by simp at hk ⊢; exact .inl hk))⟩
set_option maxRecDepth 100000 in
theorem mread_ok (gm gs ms0 ms inc E x : Nat) (rnd : List UInt8) (t ts : TypeId) (g off : Nat) (cur : List Value) (tg : TypeId) (w : World) (hB : Blk w gm (mE gs ms0 inc (E) rnd) t) (hr8 : rnd.length = 8) (hS : Blk w gs [.int .u32 ((x : Nat) : Int)] ts) (hx : x < 4294967296) (hne : gm ≠ gs) (hi0 : 1 ≤ inc) (hinc : inc ≤ 1099511627776) (hz : zerosFrom (blOf inc) rnd) (hE : E + inc < 1208925819614629174706176) (hG : Blk w g cur tg) (hfit : off + 10 ≤ cur.length) (hgm : g ≠ gm) (hgs : g ≠ gs) :
    Calls Try.prog 37 #[.pointer (some ⟨gm, 0, none⟩), .int .u64 (ms : Int), .slice (some ⟨g, off, none⟩) 10 10] w fun e w' => e = .returned .nilIface ∧ MPost gm gs ms0 ms inc E x t ts g off cur tg w w' := by
  go_enter Try.func37, Try.ntmps37
  refine of_keeps 49 [(2, .slice (some ⟨g, off, none⟩) 10 10), (1, .int .u64 ((ms : Nat) : Int)), (0, .pointer (some ⟨gm, 0, none⟩))] ⟨by kernel_rfl, rfl, fun x hx => by simp at hx; rcases hx with rfl | rfl | rfl <;> rfl⟩ fun a hk => ?_
  refine wp_seq_k fun K0 hK0 => ?_
  refine wp_region_lit ?_
  refine list_k rfl rfl hk (by decide) (by repeat' (first | exact far_nil _ | refine far_cons (by decide) ?_)) (v := .nilIface) (do_assign rfl rfl) ?_
  clear hk; intro a hk
  refine hK0 _ _ ?_
  clear hK0
  have hk2 : Keeps 49 ([(2, .slice (some ⟨g, off, none⟩) 10 10), (1, .int .u64 ((ms : Nat) : Int)), (0, .pointer (some ⟨gm, 0, none⟩))]) a := by
    refine ⟨hk.1, hk.2.1, fun x hx => hk.2.2 x ?_⟩
    rcases List.mem_cons.1 hx with rfl | hx
    · exact List.mem_cons_of_mem _ (List.mem_cons_self ..)
    rcases List.mem_cons.1 hx with rfl | hx
    · exact List.mem_cons_of_mem _ (List.mem_cons_of_mem _ (List.mem_cons_self ..))
    rcases List.mem_cons.1 hx with rfl | hx
    · exact List.mem_cons_of_mem _ (List.mem_cons_of_mem _ (List.mem_cons_of_mem _ (List.mem_cons_self ..)))
    cases hx
  clear hk
  have hk := hk2
  clear hk2
  refine wp_seq_k fun K1 hK1 => ?_
  have HK : ∀ (a : Act) (w2 : World), Keeps 49 [(6, .nilIface)] a → MPost gm gs ms0 ms inc E x t ts g off cur tg w w2 → K1 a w2 := by
    intro a w2 hk hp
    refine hK1 _ _ ?_
    clear hK1
    refine wp_seq_k fun K2 hK2 => ?_
    refine wp_region_lit ?_
    refine list_k rfl rfl hk (by decide) (by repeat' (first | exact far_nil _ | refine far_cons (by decide) ?_)) (v := .nilIface) (do_move rfl (hk.at (List.mem_cons_self ..))) ?_
    clear hk; intro a hk
    have hk2 : Keeps 49 ([(48, .nilIface)]) a := by
      refine ⟨hk.1, hk.2.1, fun x hx => hk.2.2 x ?_⟩
      rcases List.mem_cons.1 hx with rfl | hx
      · exact List.mem_cons_self ..
      cases hx
    clear hk
    have hk := hk2
    clear hk2
    refine list_k rfl rfl hk (by decide) (by repeat' (first | exact far_nil _ | refine far_cons (by decide) ?_)) (v := .nilIface) (do_assign rfl (hk.at (List.mem_cons_self ..))) ?_
    clear hk; intro a hk
    refine hK2 _ _ (wp_ret ?_)
    refine ret_tmp1 (t := 6) rfl hk.2.1 (hk.at (List.mem_cons_self ..)) ?_
    exact ⟨rfl, hp⟩
  clear hK1
  refine wp_seq_k fun K2 hK2 => ?_
  by_cases hE0 : E = 0
  case pos =>
    refine wp_region_lit ?_
    refine list_k rfl rfl hk (by decide) (by repeat' (first | exact far_nil _ | refine far_cons (by decide) ?_)) (v := .pointer (some ⟨gm, 0, none⟩)) (do_move rfl (hk.at (List.mem_cons_of_mem _ (List.mem_cons_of_mem _ (List.mem_cons_self ..))))) ?_
    clear hk; intro a hk
    refine list_k rfl rfl hk (by decide) (by repeat' (first | exact far_nil _ | refine far_cons (by decide) ?_)) (v := .pointer (some ⟨gm, 0, none⟩)) (do_nilc rfl (hk.at (List.mem_cons_self ..))) ?_
    clear hk; intro a hk
    refine list_k rfl rfl hk (by decide) (by repeat' (first | exact far_nil _ | refine far_cons (by decide) ?_)) (v := .pointer (some ⟨gm, 3, none⟩)) (do_fld56_3 rfl (hk.at (List.mem_cons_self ..))) ?_
    clear hk; intro a hk
    refine list_k rfl rfl hk (by decide) (by repeat' (first | exact far_nil _ | refine far_cons (by decide) ?_)) (v := .agg [.int .u16 ((E / 18446744073709551616 : Nat) : Int), .int .u64 ((E % 18446744073709551616 : Nat) : Int)].toArray) (still_part (S := fun w' => w' = w) u80Arr rfl (hk.at (List.mem_cons_self ..)) (fun w' h => by rw [h]; exact hB) rfl rfl _ rfl) ?_
    clear hk; intro a hk
    refine wp_call rfl (do_call1 rfl (hk.at (List.mem_cons_self ..)) (zero_enter _)) (uZero_ok _ _ _) ?_
    rintro e w2 ⟨rfl, hbz⟩
    rw [decide_eq_true (by omega)]
    have hB2 := hB.kept hbz
    have hS2 := hS.kept hbz
    have hG2 := hG.kept hbz
    have T2 : Sets w w2 [gm, gs, g] := sets_below hbz _
    clear hbz
    refine ⟨_, rfl, ?_⟩
    refine keep_k (v := .bool true) hk (by decide) (by repeat' (first | exact far_nil _ | refine far_cons (by decide) ?_)) ?_
    clear hk; intro a hk
    refine list_k rfl rfl hk (by decide) (by repeat' (first | exact far_nil _ | refine far_cons (by decide) ?_)) (v := .bool false) (do_notT rfl (hk.at (List.mem_cons_self ..))) ?_
    clear hk; intro a hk
    refine list_k rfl rfl hk (by decide) (by repeat' (first | exact far_nil _ | refine far_cons (by decide) ?_)) (v := .bool false) (do_move rfl (hk.at (List.mem_cons_self ..))) ?_
    clear hk; intro a hk
    refine list_off rfl rfl rfl (hk.at (List.mem_cons_self ..)) rfl hk (by decide) (by repeat' (first | exact far_nil _ | refine far_cons (by decide) ?_)) ?_
    clear hk; intro a hk
    refine list_off rfl rfl rfl (hk.at (List.mem_cons_of_mem _ (List.mem_cons_self ..))) rfl hk (by decide) (by repeat' (first | exact far_nil _ | refine far_cons (by decide) ?_)) ?_
    clear hk; intro a hk
    refine list_off rfl rfl rfl (hk.at (List.mem_cons_of_mem _ (List.mem_cons_of_mem _ (List.mem_cons_self ..)))) rfl hk (by decide) (by repeat' (first | exact far_nil _ | refine far_cons (by decide) ?_)) ?_
    clear hk; intro a hk
    refine list_off rfl rfl rfl (hk.at (List.mem_cons_of_mem _ (List.mem_cons_of_mem _ (List.mem_cons_of_mem _ (List.mem_cons_self ..))))) rfl hk (by decide) (by repeat' (first | exact far_nil _ | refine far_cons (by decide) ?_)) ?_
    clear hk; intro a hk
    refine list_off rfl rfl rfl (hk.at (List.mem_cons_of_mem _ (List.mem_cons_of_mem _ (List.mem_cons_of_mem _ (List.mem_cons_of_mem _ (List.mem_cons_self ..)))))) rfl hk (by decide) (by repeat' (first | exact far_nil _ | refine far_cons (by decide) ?_)) ?_
    clear hk; intro a hk
    refine list_off rfl rfl rfl (hk.at (List.mem_cons_of_mem _ (List.mem_cons_of_mem _ (List.mem_cons_of_mem _ (List.mem_cons_of_mem _ (List.mem_cons_of_mem _ (List.mem_cons_self ..))))))) rfl hk (by decide) (by repeat' (first | exact far_nil _ | refine far_cons (by decide) ?_)) ?_
    clear hk; intro a hk
    refine list_k rfl rfl hk (by decide) (by repeat' (first | exact far_nil _ | refine far_cons (by decide) ?_)) (v := .bool false) (do_pickF rfl (hk.at (List.mem_cons_of_mem _ (List.mem_cons_of_mem _ (List.mem_cons_of_mem _ (List.mem_cons_of_mem _ (List.mem_cons_of_mem _ (List.mem_cons_of_mem _ (List.mem_cons_self ..)))))))) rfl) ?_
    clear hk; intro a hk
    refine hK2 _ _ (wp_cond_false (hk.at (List.mem_cons_self ..)) ?_)
    clear hK2
    have hk2 : Keeps 49 ([(2, .slice (some ⟨g, off, none⟩) 10 10), (1, .int .u64 ((ms : Nat) : Int)), (0, .pointer (some ⟨gm, 0, none⟩))]) a := by
      refine ⟨hk.1, hk.2.1, fun x hx => hk.2.2 x ?_⟩
      rcases List.mem_cons.1 hx with rfl | hx
      · exact List.mem_cons_of_mem _ (List.mem_cons_of_mem _ (List.mem_cons_of_mem _ (List.mem_cons_of_mem _ (List.mem_cons_of_mem _ (List.mem_cons_of_mem _ (List.mem_cons_of_mem _ (List.mem_cons_of_mem _ (List.mem_cons_of_mem _ (List.mem_cons_of_mem _ (List.mem_cons_of_mem _ (List.mem_cons_of_mem _ (List.mem_cons_of_mem _ (List.mem_cons_of_mem _ (List.mem_cons_self ..))))))))))))))
      rcases List.mem_cons.1 hx with rfl | hx
      · exact List.mem_cons_of_mem _ (List.mem_cons_of_mem _ (List.mem_cons_of_mem _ (List.mem_cons_of_mem _ (List.mem_cons_of_mem _ (List.mem_cons_of_mem _ (List.mem_cons_of_mem _ (List.mem_cons_of_mem _ (List.mem_cons_of_mem _ (List.mem_cons_of_mem _ (List.mem_cons_of_mem _ (List.mem_cons_of_mem _ (List.mem_cons_of_mem _ (List.mem_cons_of_mem _ (List.mem_cons_of_mem _ (List.mem_cons_self ..)))))))))))))))
      rcases List.mem_cons.1 hx with rfl | hx
      · exact List.mem_cons_of_mem _ (List.mem_cons_of_mem _ (List.mem_cons_of_mem _ (List.mem_cons_of_mem _ (List.mem_cons_of_mem _ (List.mem_cons_of_mem _ (List.mem_cons_of_mem _ (List.mem_cons_of_mem _ (List.mem_cons_of_mem _ (List.mem_cons_of_mem _ (List.mem_cons_of_mem _ (List.mem_cons_of_mem _ (List.mem_cons_of_mem _ (List.mem_cons_of_mem _ (List.mem_cons_of_mem _ (List.mem_cons_of_mem _ (List.mem_cons_self ..))))))))))))))))
      cases hx
    clear hk
    have hk := hk2
    clear hk2
    refine wp_seq_k fun K3 hK3 => ?_
    refine wp_region_lit ?_
    refine list_k rfl rfl hk (by decide) (by repeat' (first | exact far_nil _ | refine far_cons (by decide) ?_)) (v := .pointer (some ⟨gm, 0, none⟩)) (do_move rfl (hk.at (List.mem_cons_of_mem _ (List.mem_cons_of_mem _ (List.mem_cons_self ..))))) ?_
    clear hk; intro a hk
    refine list_k rfl rfl hk (by decide) (by repeat' (first | exact far_nil _ | refine far_cons (by decide) ?_)) (v := .pointer (some ⟨gm, 0, none⟩)) (do_nilc rfl (hk.at (List.mem_cons_self ..))) ?_
    clear hk; intro a hk
    refine list_k rfl rfl hk (by decide) (by repeat' (first | exact far_nil _ | refine far_cons (by decide) ?_)) (v := .pointer (some ⟨gm, 0, none⟩)) (do_fld56_0 rfl (hk.at (List.mem_cons_self ..))) ?_
    clear hk; intro a hk
    refine list_k rfl rfl hk (by decide) (by repeat' (first | exact far_nil _ | refine far_cons (by decide) ?_)) (v := .iface 35 (.pointer (some ⟨gs, 0, none⟩))) (do_ldB rfl Try.underlying48 rfl (hk.at (List.mem_cons_self ..)) hB2 rfl) ?_
    clear hk; intro a hk
    refine list_k rfl rfl hk (by decide) (by repeat' (first | exact far_nil _ | refine far_cons (by decide) ?_)) (v := .slice (some ⟨g, off, none⟩) 10 10) (do_move rfl (hk.at (List.mem_cons_of_mem _ (List.mem_cons_of_mem _ (List.mem_cons_of_mem _ (List.mem_cons_of_mem _ (List.mem_cons_self ..))))))) ?_
    clear hk; intro a hk
    refine wp_call rfl (do_call2 rfl (hk.at (List.mem_cons_of_mem _ (List.mem_cons_self ..))) (hk.at (List.mem_cons_self ..)) (rf_enter _ _)) (readFullS_ok gs x ts g off 10 10 cur tg _ hx (by rw [itL_zero]; exact hS2) hG2 hfit hgs (by decide) (by decide) (by decide)) ?_
    rintro e w3 ⟨rfl, S3, G3, T3, z3⟩
    have B3 := hB2.sets T3 (by simp; exact ⟨fun e => hgm e.symm, hne⟩)
    refine ⟨_, rfl, ?_⟩
    refine keep_k (v := .tuple #[.int .i64 10, .nilIface]) hk (by decide) (by repeat' (first | exact far_nil _ | refine far_cons (by decide) ?_)) ?_
    clear hk; intro a hk
    refine list_k rfl rfl hk (by decide) (by repeat' (first | exact far_nil _ | refine far_cons (by decide) ?_)) (v := .tuple #[.int .i64 10, .nilIface]) (do_move rfl (hk.at (List.mem_cons_self ..))) ?_
    clear hk; intro a hk
    refine list_k rfl rfl hk (by decide) (by repeat' (first | exact far_nil _ | refine far_cons (by decide) ?_)) (v := .int .i64 10) (do_extract rfl (hk.at (List.mem_cons_self ..)) rfl) ?_
    clear hk; intro a hk
    refine list_k rfl rfl hk (by decide) (by repeat' (first | exact far_nil _ | refine far_cons (by decide) ?_)) (v := .nilIface) (do_extract rfl (hk.at (List.mem_cons_of_mem _ (List.mem_cons_self ..))) rfl) ?_
    clear hk; intro a hk
    refine list_k rfl rfl hk (by decide) (by repeat' (first | exact far_nil _ | refine far_cons (by decide) ?_)) (v := .nilIface) (do_assign rfl (hk.at (List.mem_cons_self ..))) ?_
    clear hk; intro a hk
    refine hK3 _ _ ?_
    clear hK3
    have hk2 : Keeps 49 ([(6, .nilIface), (2, .slice (some ⟨g, off, none⟩) 10 10), (1, .int .u64 ((ms : Nat) : Int)), (0, .pointer (some ⟨gm, 0, none⟩))]) a := by
      refine ⟨hk.1, hk.2.1, fun x hx => hk.2.2 x ?_⟩
      rcases List.mem_cons.1 hx with rfl | hx
      · exact List.mem_cons_self ..
      rcases List.mem_cons.1 hx with rfl | hx
      · exact List.mem_cons_of_mem _ (List.mem_cons_of_mem _ (List.mem_cons_of_mem _ (List.mem_cons_of_mem _ (List.mem_cons_of_mem _ (List.mem_cons_of_mem _ (List.mem_cons_of_mem _ (List.mem_cons_of_mem _ (List.mem_cons_of_mem _ (List.mem_cons_of_mem _ (List.mem_cons_self ..))))))))))
      rcases List.mem_cons.1 hx with rfl | hx
      · exact List.mem_cons_of_mem _ (List.mem_cons_of_mem _ (List.mem_cons_of_mem _ (List.mem_cons_of_mem _ (List.mem_cons_of_mem _ (List.mem_cons_of_mem _ (List.mem_cons_of_mem _ (List.mem_cons_of_mem _ (List.mem_cons_of_mem _ (List.mem_cons_of_mem _ (List.mem_cons_of_mem _ (List.mem_cons_self ..)))))))))))
      rcases List.mem_cons.1 hx with rfl | hx
      · exact List.mem_cons_of_mem _ (List.mem_cons_of_mem _ (List.mem_cons_of_mem _ (List.mem_cons_of_mem _ (List.mem_cons_of_mem _ (List.mem_cons_of_mem _ (List.mem_cons_of_mem _ (List.mem_cons_of_mem _ (List.mem_cons_of_mem _ (List.mem_cons_of_mem _ (List.mem_cons_of_mem _ (List.mem_cons_of_mem _ (List.mem_cons_self ..))))))))))))
      cases hx
    clear hk
    have hk := hk2
    clear hk2
    refine wp_seq_k fun K3 hK3 => ?_
    refine wp_region_lit ?_
    refine list_k rfl rfl hk (by decide) (by repeat' (first | exact far_nil _ | refine far_cons (by decide) ?_)) (v := .nilIface) (do_move rfl (hk.at (List.mem_cons_self ..))) ?_
    clear hk; intro a hk
    refine list_k rfl rfl hk (by decide) (by repeat' (first | exact far_nil _ | refine far_cons (by decide) ?_)) (v := .bool true) (do_eqlErr rfl (hk.at (List.mem_cons_self ..))) ?_
    clear hk; intro a hk
    refine hK3 _ _ (wp_cond_true (hk.at (List.mem_cons_self ..)) ?_)
    clear hK3
    have hk2 : Keeps 49 ([(6, .nilIface), (2, .slice (some ⟨g, off, none⟩) 10 10), (1, .int .u64 ((ms : Nat) : Int)), (0, .pointer (some ⟨gm, 0, none⟩))]) a := by
      refine ⟨hk.1, hk.2.1, fun x hx => hk.2.2 x ?_⟩
      rcases List.mem_cons.1 hx with rfl | hx
      · exact List.mem_cons_of_mem _ (List.mem_cons_of_mem _ (List.mem_cons_self ..))
      rcases List.mem_cons.1 hx with rfl | hx
      · exact List.mem_cons_of_mem _ (List.mem_cons_of_mem _ (List.mem_cons_of_mem _ (List.mem_cons_self ..)))
      rcases List.mem_cons.1 hx with rfl | hx
      · exact List.mem_cons_of_mem _ (List.mem_cons_of_mem _ (List.mem_cons_of_mem _ (List.mem_cons_of_mem _ (List.mem_cons_self ..))))
      rcases List.mem_cons.1 hx with rfl | hx
      · exact List.mem_cons_of_mem _ (List.mem_cons_of_mem _ (List.mem_cons_of_mem _ (List.mem_cons_of_mem _ (List.mem_cons_of_mem _ (List.mem_cons_self ..)))))
      cases hx
    clear hk
    have hk := hk2
    clear hk2
    refine wp_seq_k fun K3 hK3 => ?_
    refine wp_region_lit ?_
    refine list_k rfl rfl hk (by decide) (by repeat' (first | exact far_nil _ | refine far_cons (by decide) ?_)) (v := .pointer (some ⟨gm, 0, none⟩)) (do_move rfl (hk.at (List.mem_cons_of_mem _ (List.mem_cons_of_mem _ (List.mem_cons_of_mem _ (List.mem_cons_self ..)))))) ?_
    clear hk; intro a hk
    refine list_k rfl rfl hk (by decide) (by repeat' (first | exact far_nil _ | refine far_cons (by decide) ?_)) (v := .int .u64 ((ms : Nat) : Int)) (do_move rfl (hk.at (List.mem_cons_of_mem _ (List.mem_cons_of_mem _ (List.mem_cons_of_mem _ (List.mem_cons_self ..)))))) ?_
    clear hk; intro a hk
    refine list_k rfl rfl hk (by decide) (by repeat' (first | exact far_nil _ | refine far_cons (by decide) ?_)) (v := .pointer (some ⟨gm, 0, none⟩)) (do_nilc rfl (hk.at (List.mem_cons_of_mem _ (List.mem_cons_self ..)))) ?_
    clear hk; intro a hk
    refine list_k rfl rfl hk (by decide) (by repeat' (first | exact far_nil _ | refine far_cons (by decide) ?_)) (v := .pointer (some ⟨gm, 1, none⟩)) (do_fld56_1 rfl (hk.at (List.mem_cons_self ..))) ?_
    clear hk; intro a hk
    refine wp_store_cell rfl rfl (by kernel_rfl) (hk.at (List.mem_cons_self ..)) (hk.at (List.mem_cons_of_mem _ (List.mem_cons_of_mem _ (List.mem_cons_self ..)))) rfl B3 (by unfold mE; rw [mC_length hr8]; decide) fun w4 b4 g4 s4 => ?_
    refine keep_0 hk ?_
    clear hk; intro a hk
    refine hK3 _ _ ?_
    clear hK3
    have B4 : Blk w4 gm (mE gs ms inc (E) rnd) t := b4
    have G4 := G3.grown g4 (by intro e; exact hgm (Option.some.inj e))
    have S4 := S3.grown g4 (by intro e; exact hne (Option.some.inj e).symm)
    have hk2 : Keeps 49 ([(6, .nilIface), (2, .slice (some ⟨g, off, none⟩) 10 10), (0, .pointer (some ⟨gm, 0, none⟩))]) a := by
      refine ⟨hk.1, hk.2.1, fun x hx => hk.2.2 x ?_⟩
      rcases List.mem_cons.1 hx with rfl | hx
      · exact List.mem_cons_of_mem _ (List.mem_cons_of_mem _ (List.mem_cons_of_mem _ (List.mem_cons_of_mem _ (List.mem_cons_self ..))))
      rcases List.mem_cons.1 hx with rfl | hx
      · exact List.mem_cons_of_mem _ (List.mem_cons_of_mem _ (List.mem_cons_of_mem _ (List.mem_cons_of_mem _ (List.mem_cons_of_mem _ (List.mem_cons_self ..)))))
      rcases List.mem_cons.1 hx with rfl | hx
      · exact List.mem_cons_of_mem _ (List.mem_cons_of_mem _ (List.mem_cons_of_mem _ (List.mem_cons_of_mem _ (List.mem_cons_of_mem _ (List.mem_cons_of_mem _ (List.mem_cons_of_mem _ (List.mem_cons_self ..)))))))
      cases hx
    clear hk
    have hk := hk2
    clear hk2
    refine wp_region_lit ?_
    refine list_k rfl rfl hk (by decide) (by repeat' (first | exact far_nil _ | refine far_cons (by decide) ?_)) (v := .pointer (some ⟨gm, 0, none⟩)) (do_move rfl (hk.at (List.mem_cons_of_mem _ (List.mem_cons_of_mem _ (List.mem_cons_self ..))))) ?_
    clear hk; intro a hk
    refine list_k rfl rfl hk (by decide) (by repeat' (first | exact far_nil _ | refine far_cons (by decide) ?_)) (v := .pointer (some ⟨gm, 0, none⟩)) (do_nilc rfl (hk.at (List.mem_cons_self ..))) ?_
    clear hk; intro a hk
    refine list_k rfl rfl hk (by decide) (by repeat' (first | exact far_nil _ | refine far_cons (by decide) ?_)) (v := .pointer (some ⟨gm, 3, none⟩)) (do_fld56_3 rfl (hk.at (List.mem_cons_self ..))) ?_
    clear hk; intro a hk
    refine list_k rfl rfl hk (by decide) (by repeat' (first | exact far_nil _ | refine far_cons (by decide) ?_)) (v := .slice (some ⟨g, off, none⟩) 10 10) (do_move rfl (hk.at (List.mem_cons_of_mem _ (List.mem_cons_of_mem _ (List.mem_cons_of_mem _ (List.mem_cons_of_mem _ (List.mem_cons_self ..))))))) ?_
    clear hk; intro a hk
    refine wp_call rfl (do_call2 rfl (hk.at (List.mem_cons_of_mem _ (List.mem_cons_self ..))) (hk.at (List.mem_cons_self ..)) (set_enter _ _)) (uSet_ok gm gs ms inc E rnd t g off (sb 10 x) _ B4 hr8 (rd_splice G4 (by rw [sb_length]; exact hfit) (by rw [sb_length]; decide)) (sb_length 10 x) hgm) ?_
    rintro e w5 ⟨rfl, B5, g5⟩
    refine ⟨_, rfl, ?_⟩
    refine keep_k (v := .tuple #[]) hk (by decide) (by repeat' (first | exact far_nil _ | refine far_cons (by decide) ?_)) ?_
    clear hk; intro a hk
    have hk2 : Keeps 49 ([(6, .nilIface)]) a := by
      refine ⟨hk.1, hk.2.1, fun x hx => hk.2.2 x ?_⟩
      rcases List.mem_cons.1 hx with rfl | hx
      · exact List.mem_cons_of_mem _ (List.mem_cons_of_mem _ (List.mem_cons_of_mem _ (List.mem_cons_of_mem _ (List.mem_cons_of_mem _ (List.mem_cons_self ..)))))
      cases hx
    clear hk
    have hk := hk2
    clear hk2
    have hit : itL 10 x < 4294967296 := itL_lt 10 x hx
    refine HK _ _ hk ⟨num (sb 10 x), itL 10 x, rnd, B5, hr8, hz, S4.grown g5 (by intro e; exact hne (Option.some.inj e).symm), hit, ?_, ?_, .inr ⟨by omega, rfl⟩⟩
    · have e := be_num (sb 10 x)
      rw [sb_length] at e
      rw [e]
      exact G4.grown g5 (by intro e; exact hgm (Option.some.inj e))
    · exact (T2.trans (T3.mono (fun k hk => by simp at hk ⊢; rcases hk with rfl | rfl <;> simp))).trans (((sets_grown g4).mono (fun k hk => by simp at hk ⊢; exact .inl hk)).trans ((sets_grown g5).mono (fun k hk => by simp at hk ⊢; exact .inl hk)))
  by_cases hms : ms0 = ms
  case neg =>
    refine wp_region_lit ?_
    refine list_k rfl rfl hk (by decide) (by repeat' (first | exact far_nil _ | refine far_cons (by decide) ?_)) (v := .pointer (some ⟨gm, 0, none⟩)) (do_move rfl (hk.at (List.mem_cons_of_mem _ (List.mem_cons_of_mem _ (List.mem_cons_self ..))))) ?_
    clear hk; intro a hk
    refine list_k rfl rfl hk (by decide) (by repeat' (first | exact far_nil _ | refine far_cons (by decide) ?_)) (v := .pointer (some ⟨gm, 0, none⟩)) (do_nilc rfl (hk.at (List.mem_cons_self ..))) ?_
    clear hk; intro a hk
    refine list_k rfl rfl hk (by decide) (by repeat' (first | exact far_nil _ | refine far_cons (by decide) ?_)) (v := .pointer (some ⟨gm, 3, none⟩)) (do_fld56_3 rfl (hk.at (List.mem_cons_self ..))) ?_
    clear hk; intro a hk
    refine list_k rfl rfl hk (by decide) (by repeat' (first | exact far_nil _ | refine far_cons (by decide) ?_)) (v := .agg [.int .u16 ((E / 18446744073709551616 : Nat) : Int), .int .u64 ((E % 18446744073709551616 : Nat) : Int)].toArray) (still_part (S := fun w' => w' = w) u80Arr rfl (hk.at (List.mem_cons_self ..)) (fun w' h => by rw [h]; exact hB) rfl rfl _ rfl) ?_
    clear hk; intro a hk
    refine wp_call rfl (do_call1 rfl (hk.at (List.mem_cons_self ..)) (zero_enter _)) (uZero_ok _ _ _) ?_
    rintro e w2 ⟨rfl, hbz⟩
    rw [decide_eq_false (by omega)]
    have hB2 := hB.kept hbz
    have hS2 := hS.kept hbz
    have hG2 := hG.kept hbz
    have T2 : Sets w w2 [gm, gs, g] := sets_below hbz _
    clear hbz
    refine ⟨_, rfl, ?_⟩
    refine keep_k (v := .bool false) hk (by decide) (by repeat' (first | exact far_nil _ | refine far_cons (by decide) ?_)) ?_
    clear hk; intro a hk
    refine list_k rfl rfl hk (by decide) (by repeat' (first | exact far_nil _ | refine far_cons (by decide) ?_)) (v := .bool true) (do_notF rfl (hk.at (List.mem_cons_self ..))) ?_
    clear hk; intro a hk
    refine list_k rfl rfl hk (by decide) (by repeat' (first | exact far_nil _ | refine far_cons (by decide) ?_)) (v := .bool true) (do_move rfl (hk.at (List.mem_cons_self ..))) ?_
    clear hk; intro a hk
    refine list_on rfl rfl rfl (hk.at (List.mem_cons_self ..)) rfl hk (by decide) (by repeat' (first | exact far_nil _ | refine far_cons (by decide) ?_)) (v := .pointer (some ⟨gm, 0, none⟩)) (do_move rfl (hk.at (List.mem_cons_of_mem _ (List.mem_cons_of_mem _ (List.mem_cons_of_mem _ (List.mem_cons_of_mem _ (List.mem_cons_of_mem _ (List.mem_cons_of_mem _ (List.mem_cons_of_mem _ (List.mem_cons_of_mem _ (List.mem_cons_of_mem _ (List.mem_cons_self ..)))))))))))) ?_
    clear hk; intro a hk
    refine list_on rfl rfl rfl (hk.at (List.mem_cons_of_mem _ (List.mem_cons_self ..))) rfl hk (by decide) (by repeat' (first | exact far_nil _ | refine far_cons (by decide) ?_)) (v := .pointer (some ⟨gm, 0, none⟩)) (do_nilc rfl (hk.at (List.mem_cons_self ..))) ?_
    clear hk; intro a hk
    refine list_on rfl rfl rfl (hk.at (List.mem_cons_of_mem _ (List.mem_cons_of_mem _ (List.mem_cons_self ..)))) rfl hk (by decide) (by repeat' (first | exact far_nil _ | refine far_cons (by decide) ?_)) (v := .pointer (some ⟨gm, 1, none⟩)) (do_fld56_1 rfl (hk.at (List.mem_cons_self ..))) ?_
    clear hk; intro a hk
    refine list_on rfl rfl rfl (hk.at (List.mem_cons_of_mem _ (List.mem_cons_of_mem _ (List.mem_cons_of_mem _ (List.mem_cons_self ..))))) rfl hk (by decide) (by repeat' (first | exact far_nil _ | refine far_cons (by decide) ?_)) (v := .int .u64 ((ms0 : Nat) : Int)) (do_ldB rfl Try.underlying24 rfl (hk.at (List.mem_cons_self ..)) hB2 rfl) ?_
    clear hk; intro a hk
    refine list_on rfl rfl rfl (hk.at (List.mem_cons_of_mem _ (List.mem_cons_of_mem _ (List.mem_cons_of_mem _ (List.mem_cons_of_mem _ (List.mem_cons_self ..)))))) rfl hk (by decide) (by repeat' (first | exact far_nil _ | refine far_cons (by decide) ?_)) (v := .int .u64 ((ms : Nat) : Int)) (do_move rfl (hk.at (List.mem_cons_of_mem _ (List.mem_cons_of_mem _ (List.mem_cons_of_mem _ (List.mem_cons_of_mem _ (List.mem_cons_of_mem _ (List.mem_cons_of_mem _ (List.mem_cons_of_mem _ (List.mem_cons_of_mem _ (List.mem_cons_of_mem _ (List.mem_cons_of_mem _ (List.mem_cons_of_mem _ (List.mem_cons_of_mem _ (List.mem_cons_self ..))))))))))))))) ?_
    clear hk; intro a hk
    refine list_on rfl rfl rfl (hk.at (List.mem_cons_of_mem _ (List.mem_cons_of_mem _ (List.mem_cons_of_mem _ (List.mem_cons_of_mem _ (List.mem_cons_of_mem _ (List.mem_cons_self ..))))))) rfl hk (by decide) (by repeat' (first | exact far_nil _ | refine far_cons (by decide) ?_)) (v := .bool false) (do_eqlF rfl Try.underlying24 (hk.at (List.mem_cons_of_mem _ (List.mem_cons_self ..))) (hk.at (List.mem_cons_self ..)) hms) ?_
    clear hk; intro a hk
    refine list_k rfl rfl hk (by decide) (by repeat' (first | exact far_nil _ | refine far_cons (by decide) ?_)) (v := .bool false) (do_pickT rfl (hk.at (List.mem_cons_of_mem _ (List.mem_cons_of_mem _ (List.mem_cons_of_mem _ (List.mem_cons_of_mem _ (List.mem_cons_of_mem _ (List.mem_cons_of_mem _ (List.mem_cons_self ..)))))))) (hk.at (List.mem_cons_self ..))) ?_
    clear hk; intro a hk
    refine hK2 _ _ (wp_cond_false (hk.at (List.mem_cons_self ..)) ?_)
    clear hK2
    have hk2 : Keeps 49 ([(2, .slice (some ⟨g, off, none⟩) 10 10), (1, .int .u64 ((ms : Nat) : Int)), (0, .pointer (some ⟨gm, 0, none⟩))]) a := by
      refine ⟨hk.1, hk.2.1, fun x hx => hk.2.2 x ?_⟩
      rcases List.mem_cons.1 hx with rfl | hx
      · exact List.mem_cons_of_mem _ (List.mem_cons_of_mem _ (List.mem_cons_of_mem _ (List.mem_cons_of_mem _ (List.mem_cons_of_mem _ (List.mem_cons_of_mem _ (List.mem_cons_of_mem _ (List.mem_cons_of_mem _ (List.mem_cons_of_mem _ (List.mem_cons_of_mem _ (List.mem_cons_of_mem _ (List.mem_cons_of_mem _ (List.mem_cons_of_mem _ (List.mem_cons_of_mem _ (List.mem_cons_self ..))))))))))))))
      rcases List.mem_cons.1 hx with rfl | hx
      · exact List.mem_cons_of_mem _ (List.mem_cons_of_mem _ (List.mem_cons_of_mem _ (List.mem_cons_of_mem _ (List.mem_cons_of_mem _ (List.mem_cons_of_mem _ (List.mem_cons_of_mem _ (List.mem_cons_of_mem _ (List.mem_cons_of_mem _ (List.mem_cons_of_mem _ (List.mem_cons_of_mem _ (List.mem_cons_of_mem _ (List.mem_cons_of_mem _ (List.mem_cons_of_mem _ (List.mem_cons_of_mem _ (List.mem_cons_self ..)))))))))))))))
      rcases List.mem_cons.1 hx with rfl | hx
      · exact List.mem_cons_of_mem _ (List.mem_cons_of_mem _ (List.mem_cons_of_mem _ (List.mem_cons_of_mem _ (List.mem_cons_of_mem _ (List.mem_cons_of_mem _ (List.mem_cons_of_mem _ (List.mem_cons_of_mem _ (List.mem_cons_of_mem _ (List.mem_cons_of_mem _ (List.mem_cons_of_mem _ (List.mem_cons_of_mem _ (List.mem_cons_of_mem _ (List.mem_cons_of_mem _ (List.mem_cons_of_mem _ (List.mem_cons_of_mem _ (List.mem_cons_self ..))))))))))))))))
      cases hx
    clear hk
    have hk := hk2
    clear hk2
    refine wp_seq_k fun K3 hK3 => ?_
    refine wp_region_lit ?_
    refine list_k rfl rfl hk (by decide) (by repeat' (first | exact far_nil _ | refine far_cons (by decide) ?_)) (v := .pointer (some ⟨gm, 0, none⟩)) (do_move rfl (hk.at (List.mem_cons_of_mem _ (List.mem_cons_of_mem _ (List.mem_cons_self ..))))) ?_
    clear hk; intro a hk
    refine list_k rfl rfl hk (by decide) (by repeat' (first | exact far_nil _ | refine far_cons (by decide) ?_)) (v := .pointer (some ⟨gm, 0, none⟩)) (do_nilc rfl (hk.at (List.mem_cons_self ..))) ?_
    clear hk; intro a hk
    refine list_k rfl rfl hk (by decide) (by repeat' (first | exact far_nil _ | refine far_cons (by decide) ?_)) (v := .pointer (some ⟨gm, 0, none⟩)) (do_fld56_0 rfl (hk.at (List.mem_cons_self ..))) ?_
    clear hk; intro a hk
    refine list_k rfl rfl hk (by decide) (by repeat' (first | exact far_nil _ | refine far_cons (by decide) ?_)) (v := .iface 35 (.pointer (some ⟨gs, 0, none⟩))) (do_ldB rfl Try.underlying48 rfl (hk.at (List.mem_cons_self ..)) hB2 rfl) ?_
    clear hk; intro a hk
    refine list_k rfl rfl hk (by decide) (by repeat' (first | exact far_nil _ | refine far_cons (by decide) ?_)) (v := .slice (some ⟨g, off, none⟩) 10 10) (do_move rfl (hk.at (List.mem_cons_of_mem _ (List.mem_cons_of_mem _ (List.mem_cons_of_mem _ (List.mem_cons_of_mem _ (List.mem_cons_self ..))))))) ?_
    clear hk; intro a hk
    refine wp_call rfl (do_call2 rfl (hk.at (List.mem_cons_of_mem _ (List.mem_cons_self ..))) (hk.at (List.mem_cons_self ..)) (rf_enter _ _)) (readFullS_ok gs x ts g off 10 10 cur tg _ hx (by rw [itL_zero]; exact hS2) hG2 hfit hgs (by decide) (by decide) (by decide)) ?_
    rintro e w3 ⟨rfl, S3, G3, T3, z3⟩
    have B3 := hB2.sets T3 (by simp; exact ⟨fun e => hgm e.symm, hne⟩)
    refine ⟨_, rfl, ?_⟩
    refine keep_k (v := .tuple #[.int .i64 10, .nilIface]) hk (by decide) (by repeat' (first | exact far_nil _ | refine far_cons (by decide) ?_)) ?_
    clear hk; intro a hk
    refine list_k rfl rfl hk (by decide) (by repeat' (first | exact far_nil _ | refine far_cons (by decide) ?_)) (v := .tuple #[.int .i64 10, .nilIface]) (do_move rfl (hk.at (List.mem_cons_self ..))) ?_
    clear hk; intro a hk
    refine list_k rfl rfl hk (by decide) (by repeat' (first | exact far_nil _ | refine far_cons (by decide) ?_)) (v := .int .i64 10) (do_extract rfl (hk.at (List.mem_cons_self ..)) rfl) ?_
    clear hk; intro a hk
    refine list_k rfl rfl hk (by decide) (by repeat' (first | exact far_nil _ | refine far_cons (by decide) ?_)) (v := .nilIface) (do_extract rfl (hk.at (List.mem_cons_of_mem _ (List.mem_cons_self ..))) rfl) ?_
    clear hk; intro a hk
    refine list_k rfl rfl hk (by decide) (by repeat' (first | exact far_nil _ | refine far_cons (by decide) ?_)) (v := .nilIface) (do_assign rfl (hk.at (List.mem_cons_self ..))) ?_
    clear hk; intro a hk
    refine hK3 _ _ ?_
    clear hK3
    have hk2 : Keeps 49 ([(6, .nilIface), (2, .slice (some ⟨g, off, none⟩) 10 10), (1, .int .u64 ((ms : Nat) : Int)), (0, .pointer (some ⟨gm, 0, none⟩))]) a := by
      refine ⟨hk.1, hk.2.1, fun x hx => hk.2.2 x ?_⟩
      rcases List.mem_cons.1 hx with rfl | hx
      · exact List.mem_cons_self ..
      rcases List.mem_cons.1 hx with rfl | hx
      · exact List.mem_cons_of_mem _ (List.mem_cons_of_mem _ (List.mem_cons_of_mem _ (List.mem_cons_of_mem _ (List.mem_cons_of_mem _ (List.mem_cons_of_mem _ (List.mem_cons_of_mem _ (List.mem_cons_of_mem _ (List.mem_cons_of_mem _ (List.mem_cons_of_mem _ (List.mem_cons_self ..))))))))))
      rcases List.mem_cons.1 hx with rfl | hx
      · exact List.mem_cons_of_mem _ (List.mem_cons_of_mem _ (List.mem_cons_of_mem _ (List.mem_cons_of_mem _ (List.mem_cons_of_mem _ (List.mem_cons_of_mem _ (List.mem_cons_of_mem _ (List.mem_cons_of_mem _ (List.mem_cons_of_mem _ (List.mem_cons_of_mem _ (List.mem_cons_of_mem _ (List.mem_cons_self ..)))))))))))
      rcases List.mem_cons.1 hx with rfl | hx
      · exact List.mem_cons_of_mem _ (List.mem_cons_of_mem _ (List.mem_cons_of_mem _ (List.mem_cons_of_mem _ (List.mem_cons_of_mem _ (List.mem_cons_of_mem _ (List.mem_cons_of_mem _ (List.mem_cons_of_mem _ (List.mem_cons_of_mem _ (List.mem_cons_of_mem _ (List.mem_cons_of_mem _ (List.mem_cons_of_mem _ (List.mem_cons_self ..))))))))))))
      cases hx
    clear hk
    have hk := hk2
    clear hk2
    refine wp_seq_k fun K3 hK3 => ?_
    refine wp_region_lit ?_
    refine list_k rfl rfl hk (by decide) (by repeat' (first | exact far_nil _ | refine far_cons (by decide) ?_)) (v := .nilIface) (do_move rfl (hk.at (List.mem_cons_self ..))) ?_
    clear hk; intro a hk
    refine list_k rfl rfl hk (by decide) (by repeat' (first | exact far_nil _ | refine far_cons (by decide) ?_)) (v := .bool true) (do_eqlErr rfl (hk.at (List.mem_cons_self ..))) ?_
    clear hk; intro a hk
    refine hK3 _ _ (wp_cond_true (hk.at (List.mem_cons_self ..)) ?_)
    clear hK3
    have hk2 : Keeps 49 ([(6, .nilIface), (2, .slice (some ⟨g, off, none⟩) 10 10), (1, .int .u64 ((ms : Nat) : Int)), (0, .pointer (some ⟨gm, 0, none⟩))]) a := by
      refine ⟨hk.1, hk.2.1, fun x hx => hk.2.2 x ?_⟩
      rcases List.mem_cons.1 hx with rfl | hx
      · exact List.mem_cons_of_mem _ (List.mem_cons_of_mem _ (List.mem_cons_self ..))
      rcases List.mem_cons.1 hx with rfl | hx
      · exact List.mem_cons_of_mem _ (List.mem_cons_of_mem _ (List.mem_cons_of_mem _ (List.mem_cons_self ..)))
      rcases List.mem_cons.1 hx with rfl | hx
      · exact List.mem_cons_of_mem _ (List.mem_cons_of_mem _ (List.mem_cons_of_mem _ (List.mem_cons_of_mem _ (List.mem_cons_self ..))))
      rcases List.mem_cons.1 hx with rfl | hx
      · exact List.mem_cons_of_mem _ (List.mem_cons_of_mem _ (List.mem_cons_of_mem _ (List.mem_cons_of_mem _ (List.mem_cons_of_mem _ (List.mem_cons_self ..)))))
      cases hx
    clear hk
    have hk := hk2
    clear hk2
    refine wp_seq_k fun K3 hK3 => ?_
    refine wp_region_lit ?_
    refine list_k rfl rfl hk (by decide) (by repeat' (first | exact far_nil _ | refine far_cons (by decide) ?_)) (v := .pointer (some ⟨gm, 0, none⟩)) (do_move rfl (hk.at (List.mem_cons_of_mem _ (List.mem_cons_of_mem _ (List.mem_cons_of_mem _ (List.mem_cons_self ..)))))) ?_
    clear hk; intro a hk
    refine list_k rfl rfl hk (by decide) (by repeat' (first | exact far_nil _ | refine far_cons (by decide) ?_)) (v := .int .u64 ((ms : Nat) : Int)) (do_move rfl (hk.at (List.mem_cons_of_mem _ (List.mem_cons_of_mem _ (List.mem_cons_of_mem _ (List.mem_cons_self ..)))))) ?_
    clear hk; intro a hk
    refine list_k rfl rfl hk (by decide) (by repeat' (first | exact far_nil _ | refine far_cons (by decide) ?_)) (v := .pointer (some ⟨gm, 0, none⟩)) (do_nilc rfl (hk.at (List.mem_cons_of_mem _ (List.mem_cons_self ..)))) ?_
    clear hk; intro a hk
    refine list_k rfl rfl hk (by decide) (by repeat' (first | exact far_nil _ | refine far_cons (by decide) ?_)) (v := .pointer (some ⟨gm, 1, none⟩)) (do_fld56_1 rfl (hk.at (List.mem_cons_self ..))) ?_
    clear hk; intro a hk
    refine wp_store_cell rfl rfl (by kernel_rfl) (hk.at (List.mem_cons_self ..)) (hk.at (List.mem_cons_of_mem _ (List.mem_cons_of_mem _ (List.mem_cons_self ..)))) rfl B3 (by unfold mE; rw [mC_length hr8]; decide) fun w4 b4 g4 s4 => ?_
    refine keep_0 hk ?_
    clear hk; intro a hk
    refine hK3 _ _ ?_
    clear hK3
    have B4 : Blk w4 gm (mE gs ms inc (E) rnd) t := b4
    have G4 := G3.grown g4 (by intro e; exact hgm (Option.some.inj e))
    have S4 := S3.grown g4 (by intro e; exact hne (Option.some.inj e).symm)
    have hk2 : Keeps 49 ([(6, .nilIface), (2, .slice (some ⟨g, off, none⟩) 10 10), (0, .pointer (some ⟨gm, 0, none⟩))]) a := by
      refine ⟨hk.1, hk.2.1, fun x hx => hk.2.2 x ?_⟩
      rcases List.mem_cons.1 hx with rfl | hx
      · exact List.mem_cons_of_mem _ (List.mem_cons_of_mem _ (List.mem_cons_of_mem _ (List.mem_cons_of_mem _ (List.mem_cons_self ..))))
      rcases List.mem_cons.1 hx with rfl | hx
      · exact List.mem_cons_of_mem _ (List.mem_cons_of_mem _ (List.mem_cons_of_mem _ (List.mem_cons_of_mem _ (List.mem_cons_of_mem _ (List.mem_cons_self ..)))))
      rcases List.mem_cons.1 hx with rfl | hx
      · exact List.mem_cons_of_mem _ (List.mem_cons_of_mem _ (List.mem_cons_of_mem _ (List.mem_cons_of_mem _ (List.mem_cons_of_mem _ (List.mem_cons_of_mem _ (List.mem_cons_of_mem _ (List.mem_cons_self ..)))))))
      cases hx
    clear hk
    have hk := hk2
    clear hk2
    refine wp_region_lit ?_
    refine list_k rfl rfl hk (by decide) (by repeat' (first | exact far_nil _ | refine far_cons (by decide) ?_)) (v := .pointer (some ⟨gm, 0, none⟩)) (do_move rfl (hk.at (List.mem_cons_of_mem _ (List.mem_cons_of_mem _ (List.mem_cons_self ..))))) ?_
    clear hk; intro a hk
    refine list_k rfl rfl hk (by decide) (by repeat' (first | exact far_nil _ | refine far_cons (by decide) ?_)) (v := .pointer (some ⟨gm, 0, none⟩)) (do_nilc rfl (hk.at (List.mem_cons_self ..))) ?_
    clear hk; intro a hk
    refine list_k rfl rfl hk (by decide) (by repeat' (first | exact far_nil _ | refine far_cons (by decide) ?_)) (v := .pointer (some ⟨gm, 3, none⟩)) (do_fld56_3 rfl (hk.at (List.mem_cons_self ..))) ?_
    clear hk; intro a hk
    refine list_k rfl rfl hk (by decide) (by repeat' (first | exact far_nil _ | refine far_cons (by decide) ?_)) (v := .slice (some ⟨g, off, none⟩) 10 10) (do_move rfl (hk.at (List.mem_cons_of_mem _ (List.mem_cons_of_mem _ (List.mem_cons_of_mem _ (List.mem_cons_of_mem _ (List.mem_cons_self ..))))))) ?_
    clear hk; intro a hk
    refine wp_call rfl (do_call2 rfl (hk.at (List.mem_cons_of_mem _ (List.mem_cons_self ..))) (hk.at (List.mem_cons_self ..)) (set_enter _ _)) (uSet_ok gm gs ms inc E rnd t g off (sb 10 x) _ B4 hr8 (rd_splice G4 (by rw [sb_length]; exact hfit) (by rw [sb_length]; decide)) (sb_length 10 x) hgm) ?_
    rintro e w5 ⟨rfl, B5, g5⟩
    refine ⟨_, rfl, ?_⟩
    refine keep_k (v := .tuple #[]) hk (by decide) (by repeat' (first | exact far_nil _ | refine far_cons (by decide) ?_)) ?_
    clear hk; intro a hk
    have hk2 : Keeps 49 ([(6, .nilIface)]) a := by
      refine ⟨hk.1, hk.2.1, fun x hx => hk.2.2 x ?_⟩
      rcases List.mem_cons.1 hx with rfl | hx
      · exact List.mem_cons_of_mem _ (List.mem_cons_of_mem _ (List.mem_cons_of_mem _ (List.mem_cons_of_mem _ (List.mem_cons_of_mem _ (List.mem_cons_self ..)))))
      cases hx
    clear hk
    have hk := hk2
    clear hk2
    have hit : itL 10 x < 4294967296 := itL_lt 10 x hx
    refine HK _ _ hk ⟨num (sb 10 x), itL 10 x, rnd, B5, hr8, hz, S4.grown g5 (by intro e; exact hne (Option.some.inj e).symm), hit, ?_, ?_, .inr ⟨by omega, rfl⟩⟩
    · have e := be_num (sb 10 x)
      rw [sb_length] at e
      rw [e]
      exact G4.grown g5 (by intro e; exact hgm (Option.some.inj e))
    · exact (T2.trans (T3.mono (fun k hk => by simp at hk ⊢; rcases hk with rfl | rfl <;> simp))).trans (((sets_grown g4).mono (fun k hk => by simp at hk ⊢; exact .inl hk)).trans ((sets_grown g5).mono (fun k hk => by simp at hk ⊢; exact .inl hk)))
  refine wp_region_lit ?_
  refine list_k rfl rfl hk (by decide) (by repeat' (first | exact far_nil _ | refine far_cons (by decide) ?_)) (v := .pointer (some ⟨gm, 0, none⟩)) (do_move rfl (hk.at (List.mem_cons_of_mem _ (List.mem_cons_of_mem _ (List.mem_cons_self ..))))) ?_
  clear hk; intro a hk
  refine list_k rfl rfl hk (by decide) (by repeat' (first | exact far_nil _ | refine far_cons (by decide) ?_)) (v := .pointer (some ⟨gm, 0, none⟩)) (do_nilc rfl (hk.at (List.mem_cons_self ..))) ?_
  clear hk; intro a hk
  refine list_k rfl rfl hk (by decide) (by repeat' (first | exact far_nil _ | refine far_cons (by decide) ?_)) (v := .pointer (some ⟨gm, 3, none⟩)) (do_fld56_3 rfl (hk.at (List.mem_cons_self ..))) ?_
  clear hk; intro a hk
  refine list_k rfl rfl hk (by decide) (by repeat' (first | exact far_nil _ | refine far_cons (by decide) ?_)) (v := .agg [.int .u16 ((E / 18446744073709551616 : Nat) : Int), .int .u64 ((E % 18446744073709551616 : Nat) : Int)].toArray) (still_part (S := fun w' => w' = w) u80Arr rfl (hk.at (List.mem_cons_self ..)) (fun w' h => by rw [h]; exact hB) rfl rfl _ rfl) ?_
  clear hk; intro a hk
  refine wp_call rfl (do_call1 rfl (hk.at (List.mem_cons_self ..)) (zero_enter _)) (uZero_ok _ _ _) ?_
  rintro e w2 ⟨rfl, hbz⟩
  rw [decide_eq_false (by omega)]
  have hB2 := hB.kept hbz
  have hS2 := hS.kept hbz
  have hG2 := hG.kept hbz
  have T2 : Sets w w2 [gm, gs, g] := sets_below hbz _
  clear hbz
  refine ⟨_, rfl, ?_⟩
  refine keep_k (v := .bool false) hk (by decide) (by repeat' (first | exact far_nil _ | refine far_cons (by decide) ?_)) ?_
  clear hk; intro a hk
  refine list_k rfl rfl hk (by decide) (by repeat' (first | exact far_nil _ | refine far_cons (by decide) ?_)) (v := .bool true) (do_notF rfl (hk.at (List.mem_cons_self ..))) ?_
  clear hk; intro a hk
  refine list_k rfl rfl hk (by decide) (by repeat' (first | exact far_nil _ | refine far_cons (by decide) ?_)) (v := .bool true) (do_move rfl (hk.at (List.mem_cons_self ..))) ?_
  clear hk; intro a hk
  refine list_on rfl rfl rfl (hk.at (List.mem_cons_self ..)) rfl hk (by decide) (by repeat' (first | exact far_nil _ | refine far_cons (by decide) ?_)) (v := .pointer (some ⟨gm, 0, none⟩)) (do_move rfl (hk.at (List.mem_cons_of_mem _ (List.mem_cons_of_mem _ (List.mem_cons_of_mem _ (List.mem_cons_of_mem _ (List.mem_cons_of_mem _ (List.mem_cons_of_mem _ (List.mem_cons_of_mem _ (List.mem_cons_of_mem _ (List.mem_cons_of_mem _ (List.mem_cons_self ..)))))))))))) ?_
  clear hk; intro a hk
  refine list_on rfl rfl rfl (hk.at (List.mem_cons_of_mem _ (List.mem_cons_self ..))) rfl hk (by decide) (by repeat' (first | exact far_nil _ | refine far_cons (by decide) ?_)) (v := .pointer (some ⟨gm, 0, none⟩)) (do_nilc rfl (hk.at (List.mem_cons_self ..))) ?_
  clear hk; intro a hk
  refine list_on rfl rfl rfl (hk.at (List.mem_cons_of_mem _ (List.mem_cons_of_mem _ (List.mem_cons_self ..)))) rfl hk (by decide) (by repeat' (first | exact far_nil _ | refine far_cons (by decide) ?_)) (v := .pointer (some ⟨gm, 1, none⟩)) (do_fld56_1 rfl (hk.at (List.mem_cons_self ..))) ?_
  clear hk; intro a hk
  refine list_on rfl rfl rfl (hk.at (List.mem_cons_of_mem _ (List.mem_cons_of_mem _ (List.mem_cons_of_mem _ (List.mem_cons_self ..))))) rfl hk (by decide) (by repeat' (first | exact far_nil _ | refine far_cons (by decide) ?_)) (v := .int .u64 ((ms0 : Nat) : Int)) (do_ldB rfl Try.underlying24 rfl (hk.at (List.mem_cons_self ..)) hB2 rfl) ?_
  clear hk; intro a hk
  refine list_on rfl rfl rfl (hk.at (List.mem_cons_of_mem _ (List.mem_cons_of_mem _ (List.mem_cons_of_mem _ (List.mem_cons_of_mem _ (List.mem_cons_self ..)))))) rfl hk (by decide) (by repeat' (first | exact far_nil _ | refine far_cons (by decide) ?_)) (v := .int .u64 ((ms : Nat) : Int)) (do_move rfl (hk.at (List.mem_cons_of_mem _ (List.mem_cons_of_mem _ (List.mem_cons_of_mem _ (List.mem_cons_of_mem _ (List.mem_cons_of_mem _ (List.mem_cons_of_mem _ (List.mem_cons_of_mem _ (List.mem_cons_of_mem _ (List.mem_cons_of_mem _ (List.mem_cons_of_mem _ (List.mem_cons_of_mem _ (List.mem_cons_of_mem _ (List.mem_cons_self ..))))))))))))))) ?_
  clear hk; intro a hk
  refine list_on rfl rfl rfl (hk.at (List.mem_cons_of_mem _ (List.mem_cons_of_mem _ (List.mem_cons_of_mem _ (List.mem_cons_of_mem _ (List.mem_cons_of_mem _ (List.mem_cons_self ..))))))) rfl hk (by decide) (by repeat' (first | exact far_nil _ | refine far_cons (by decide) ?_)) (v := .bool true) (do_eqlT rfl Try.underlying24 (hk.at (List.mem_cons_of_mem _ (List.mem_cons_self ..))) (hk.at (List.mem_cons_self ..)) hms) ?_
  clear hk; intro a hk
  refine list_k rfl rfl hk (by decide) (by repeat' (first | exact far_nil _ | refine far_cons (by decide) ?_)) (v := .bool true) (do_pickT rfl (hk.at (List.mem_cons_of_mem _ (List.mem_cons_of_mem _ (List.mem_cons_of_mem _ (List.mem_cons_of_mem _ (List.mem_cons_of_mem _ (List.mem_cons_of_mem _ (List.mem_cons_self ..)))))))) (hk.at (List.mem_cons_self ..))) ?_
  clear hk; intro a hk
  refine hK2 _ _ (wp_cond_true (hk.at (List.mem_cons_self ..)) ?_)
  clear hK2
  have hk2 : Keeps 49 ([(2, .slice (some ⟨g, off, none⟩) 10 10), (1, .int .u64 ((ms : Nat) : Int)), (0, .pointer (some ⟨gm, 0, none⟩))]) a := by
    refine ⟨hk.1, hk.2.1, fun x hx => hk.2.2 x ?_⟩
    rcases List.mem_cons.1 hx with rfl | hx
    · exact List.mem_cons_of_mem _ (List.mem_cons_of_mem _ (List.mem_cons_of_mem _ (List.mem_cons_of_mem _ (List.mem_cons_of_mem _ (List.mem_cons_of_mem _ (List.mem_cons_of_mem _ (List.mem_cons_of_mem _ (List.mem_cons_of_mem _ (List.mem_cons_of_mem _ (List.mem_cons_of_mem _ (List.mem_cons_of_mem _ (List.mem_cons_of_mem _ (List.mem_cons_of_mem _ (List.mem_cons_self ..))))))))))))))
    rcases List.mem_cons.1 hx with rfl | hx
    · exact List.mem_cons_of_mem _ (List.mem_cons_of_mem _ (List.mem_cons_of_mem _ (List.mem_cons_of_mem _ (List.mem_cons_of_mem _ (List.mem_cons_of_mem _ (List.mem_cons_of_mem _ (List.mem_cons_of_mem _ (List.mem_cons_of_mem _ (List.mem_cons_of_mem _ (List.mem_cons_of_mem _ (List.mem_cons_of_mem _ (List.mem_cons_of_mem _ (List.mem_cons_of_mem _ (List.mem_cons_of_mem _ (List.mem_cons_self ..)))))))))))))))
    rcases List.mem_cons.1 hx with rfl | hx
    · exact List.mem_cons_of_mem _ (List.mem_cons_of_mem _ (List.mem_cons_of_mem _ (List.mem_cons_of_mem _ (List.mem_cons_of_mem _ (List.mem_cons_of_mem _ (List.mem_cons_of_mem _ (List.mem_cons_of_mem _ (List.mem_cons_of_mem _ (List.mem_cons_of_mem _ (List.mem_cons_of_mem _ (List.mem_cons_of_mem _ (List.mem_cons_of_mem _ (List.mem_cons_of_mem _ (List.mem_cons_of_mem _ (List.mem_cons_of_mem _ (List.mem_cons_self ..))))))))))))))))
    cases hx
  clear hk
  have hk := hk2
  clear hk2
  refine wp_seq_k fun K3 hK3 => ?_
  refine wp_region_lit ?_
  refine list_k rfl rfl hk (by decide) (by repeat' (first | exact far_nil _ | refine far_cons (by decide) ?_)) (v := .pointer (some ⟨gm, 0, none⟩)) (do_move rfl (hk.at (List.mem_cons_of_mem _ (List.mem_cons_of_mem _ (List.mem_cons_self ..))))) ?_
  clear hk; intro a hk
  refine wp_call rfl (do_call1 rfl (hk.at (List.mem_cons_self ..)) (inc_enter _)) (inc_ok gm gs ms0 inc E x rnd t ts _ hB2 hr8 hS2 hx hne hi0 hinc hz hE) ?_
  rintro e w3 ⟨r, x2, rnd2, rfl, hr1, hri, B3, l3, z3, S3, hx3, T3⟩
  have G3 := hG2.sets T3 (by simp; exact ⟨hgm, hgs⟩)
  refine ⟨_, rfl, ?_⟩
  refine keep_k (v := .nilIface) hk (by decide) (by repeat' (first | exact far_nil _ | refine far_cons (by decide) ?_)) ?_
  clear hk; intro a hk
  refine list_k rfl rfl hk (by decide) (by repeat' (first | exact far_nil _ | refine far_cons (by decide) ?_)) (v := .nilIface) (do_assign rfl (hk.at (List.mem_cons_self ..))) ?_
  clear hk; intro a hk
  refine hK3 _ _ ?_
  clear hK3
  have hk2 : Keeps 49 ([(6, .nilIface), (2, .slice (some ⟨g, off, none⟩) 10 10), (0, .pointer (some ⟨gm, 0, none⟩))]) a := by
    refine ⟨hk.1, hk.2.1, fun x hx => hk.2.2 x ?_⟩
    rcases List.mem_cons.1 hx with rfl | hx
    · exact List.mem_cons_self ..
    rcases List.mem_cons.1 hx with rfl | hx
    · exact List.mem_cons_of_mem _ (List.mem_cons_of_mem _ (List.mem_cons_of_mem _ (List.mem_cons_self ..)))
    rcases List.mem_cons.1 hx with rfl | hx
    · exact List.mem_cons_of_mem _ (List.mem_cons_of_mem _ (List.mem_cons_of_mem _ (List.mem_cons_of_mem _ (List.mem_cons_of_mem _ (List.mem_cons_self ..)))))
    cases hx
  clear hk
  have hk := hk2
  clear hk2
  refine wp_region_lit ?_
  refine list_k rfl rfl hk (by decide) (by repeat' (first | exact far_nil _ | refine far_cons (by decide) ?_)) (v := .pointer (some ⟨gm, 0, none⟩)) (do_move rfl (hk.at (List.mem_cons_of_mem _ (List.mem_cons_of_mem _ (List.mem_cons_self ..))))) ?_
  clear hk; intro a hk
  refine list_k rfl rfl hk (by decide) (by repeat' (first | exact far_nil _ | refine far_cons (by decide) ?_)) (v := .pointer (some ⟨gm, 0, none⟩)) (do_nilc rfl (hk.at (List.mem_cons_self ..))) ?_
  clear hk; intro a hk
  refine list_k rfl rfl hk (by decide) (by repeat' (first | exact far_nil _ | refine far_cons (by decide) ?_)) (v := .pointer (some ⟨gm, 3, none⟩)) (do_fld56_3 rfl (hk.at (List.mem_cons_self ..))) ?_
  clear hk; intro a hk
  refine list_k rfl rfl hk (by decide) (by repeat' (first | exact far_nil _ | refine far_cons (by decide) ?_)) (v := .slice (some ⟨g, off, none⟩) 10 10) (do_move rfl (hk.at (List.mem_cons_of_mem _ (List.mem_cons_of_mem _ (List.mem_cons_of_mem _ (List.mem_cons_of_mem _ (List.mem_cons_self ..))))))) ?_
  clear hk; intro a hk
  refine wp_call rfl (do_call2 rfl (hk.at (List.mem_cons_of_mem _ (List.mem_cons_self ..))) (hk.at (List.mem_cons_self ..)) (app_enter _ _)) (uAppend_ok gm gs ms0 inc (E + r) rnd2 t g off cur tg _ B3 l3 (by omega) G3 hfit hgm) ?_
  rintro e w5 ⟨rfl, G5, g5⟩
  refine ⟨_, rfl, ?_⟩
  refine keep_k (v := .tuple #[]) hk (by decide) (by repeat' (first | exact far_nil _ | refine far_cons (by decide) ?_)) ?_
  clear hk; intro a hk
  have hk2 : Keeps 49 ([(6, .nilIface)]) a := by
    refine ⟨hk.1, hk.2.1, fun x hx => hk.2.2 x ?_⟩
    rcases List.mem_cons.1 hx with rfl | hx
    · exact List.mem_cons_of_mem _ (List.mem_cons_of_mem _ (List.mem_cons_of_mem _ (List.mem_cons_of_mem _ (List.mem_cons_of_mem _ (List.mem_cons_self ..)))))
    cases hx
  clear hk
  have hk := hk2
  clear hk2
  rw [hms] at B3
  refine HK _ _ hk ⟨E + r, x2, rnd2, B3.grown g5 (by intro e; exact hgm (Option.some.inj e).symm), l3, z3, S3.grown g5 (by intro e; exact hgs (Option.some.inj e).symm), hx3, G5, ?_, .inl ⟨hE0, hms, by omega, by omega⟩⟩
  exact (T2.trans (T3.mono (fun k hk => by simp at hk ⊢; rcases hk with rfl | rfl <;> simp))).trans ((sets_grown g5).mono (fun k hk => by simp at hk ⊢; exact .inr (.inr hk)))
end Go.Proofs.Ytcojcohipmoopaa
