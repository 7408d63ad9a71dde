/- Contracts: reading of the reader that does not end; the number of 80 bits. -/
import Derived.Test.YtcojcohipmoopaaMStream
namespace Go.Proofs.Ytcojcohipmoopaa
open Go.RowKit
set_option linter.unusedVariables false
set_option linter.unusedSimpArgs false
theorem st_nil (a : Addr) (w : World) : (nilAhead 208 35 (.pointer (some a)) "Read").run Try.prog w = .ok (some false) w := by kernel_rfl
theorem st_read (a : Addr) (w : World) : (method 208 35 (.pointer (some a)) "Read").run Try.prog w = .ok (52, .pointer (some a)) w := by kernel_rfl
theorem Blk.heap {w w' : World} {g : Nat} {cs : List Value} {t : TypeId} (h : Blk w g cs t) (hh : w'.heap = w.heap) : Blk w' g cs t := by unfold Blk; rw [hh]; exact h
set_option maxRecDepth 100000 in
theorem readFullS_ok (gs x : Nat) (ts : TypeId) (g off m cap : Nat) (cur : List Value) (t : TypeId) (w : World) (hx : x < 4294967296) (hS : Blk w gs [.int .u32 ((itL 0 x : Nat) : Int)] ts) (hB : Blk w g cur t) (hfit : off + m ≤ cur.length) (hne : g ≠ gs) (h0 : 0 < m) (hm : m ≤ 1000) (hmc : m ≤ cap) :
    Calls Try.prog 13 #[.iface 35 (.pointer (some ⟨gs, 0, none⟩)), .slice (some ⟨g, off, none⟩) m cap] w fun e' w' => e' = .returned (.tuple #[.int .i64 m, .nilIface]) ∧ Blk w' gs [.int .u32 ((itL m x : Nat) : Int)] ts ∧ Blk w' g (splice cur off (bvs (sb m x))) t ∧ Sets w w' [g, gs] ∧ w'.heap.size = w.heap.size := by
  have hnil := st_nil ⟨gs, 0, none⟩
  have hmeth := st_read ⟨gs, 0, none⟩
  generalize hs0 : itL 0 x = x0 at *
  generalize hsm : itL m x = xm at *
  generalize hbs : sb m x = bs at *
  have HS0 := Lib.hid hs0
  have HSM := Lib.hid hsm
  have HBS := Lib.hid hbs
  clear hs0 hsm hbs
  go_enter Try.func13, Try.ntmps13
  go_wp2
  go_loopw [4, 5] (fun n er wr => (n = .int .i64 0 ∧ er = .nilIface ∧ w = wr) ∨ (n = .int .i64 m ∧ er = .nilIface ∧ Blk wr gs [.int .u32 (xm : Int)] ts ∧ Blk wr g (splice cur off (bvs bs)) t ∧ Sets w wr [g, gs] ∧ Hid (wr.heap.size = w.heap.size))) (fun n _ _ => m - (intOf n).toNat)
  case atStart => exact .inl ⟨rfl, rfl, rfl⟩
  case round =>
    rcases hrel with ⟨rfl, rfl, rfl⟩ | ⟨rfl, rfl, hA, hB2, hT, hz⟩
    · go_wp2
      refine region_plan (fun _ => True) [(0, 0), (1, 0), (2, 0), (3, 0), (4, 1), (5, 0), (6, 0), (7, 1), (8, 0), (9, 0), (10, 0), (11, 0), (12, 0)] rfl (by kernel_rfl) (by kernel_rfl) rfl (by intro c a d v w h; cases d <;> exact h) (fun _ _ _ => trivial) ?_
      intro w2 hh hb2
      simp only [planOps, List.filterMap_cons, List.filterMap_nil, List.getElem?_cons_succ, List.getElem?_cons_zero, Option.map_some]
      repeat (first | (refine plan_still rfl (still_slice_from rfl Try.underlying28 (by kernel_rfl) rfl rfl (by omega) (by omega)) ?_) | (refine plan_skip rfl ?_) | (refine plan_still (v := ?_) rfl (fun w' hS => ?_) ?_; rotate_left; (focus (go_simp; first | done | with_reducible rfl))); simp only [Act.put, List.setIfInBounds_toArray, List.set_cons_zero, List.set_cons_succ])
      refine plan_do ?_
      go_wp2
      refine ⟨trivial, ?_⟩
      repeat (first | (refine plan_skip rfl ?_) | (refine plan_still (v := ?_) rfl (fun w' hS => ?_) ?_; rotate_left; (focus (go_simp; first | done | with_reducible rfl))); simp only [Act.put, List.setIfInBounds_toArray, List.set_cons_zero, List.set_cons_succ])
      refine plan_do ?_
      have hS2 := hS.heap hh
      have hB3 := hB.heap hh
      have T0 := sets_below hb2 [g, gs]
      have hz2 := Lib.hid (show w2.heap.size = w.heap.size by rw [hh])
      clear hh
      have hS2' : Blk w2 gs [.int .u32 ((itL 0 x : Nat) : Int)] ts := by rw [HS0.out]; exact hS2
      clear hS2
      go_wp2_with (go_at_call 52; refine (streamRead_ok gs x ts g off m cap cur t _ hx hS2' hB3 hfit hne hm).mono ?_)
      rintro e3 w3 ⟨rfl, a3, b3, T3, z3⟩
      rw [HSM.out] at a3
      rw [HBS.out] at b3
      have T03 := T0.trans T3
      have hz3 := Lib.hid (show w3.heap.size = w.heap.size by rw [z3]; exact hz2.out)
      clear z3
      go_wp2
      refine ⟨trivial, ?_⟩
      repeat (first | (refine plan_skip rfl ?_) | (refine plan_still (v := ?_) rfl (fun w' hS => ?_) ?_; rotate_left; (focus (go_simp; first | done | with_reducible rfl))); simp only [Act.put, List.setIfInBounds_toArray, List.set_cons_zero, List.set_cons_succ])
      refine plan_nil ?_
      go_wp2
      go_roundw
      case rel => exact .inr ⟨rfl, rfl, a3, b3, T03, hz3⟩
      case measure => simp [intOf]; omega
    · go_wp2
      exact ret_tmp2 rfl rfl rfl rfl ⟨rfl, hA, hB2, hT, hz.out⟩
end Go.Proofs.Ytcojcohipmoopaa
