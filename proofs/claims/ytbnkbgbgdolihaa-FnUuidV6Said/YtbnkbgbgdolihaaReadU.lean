/- Reading so many bytes of a reader of some bytes. -/
import Derived.Test.YtbnkbgbgdolihaaFeed
namespace Go.Proofs.Ytbnkbgbgdolihaa
open Go.RowKit
set_option linter.unusedVariables false
theorem Blk.heap {w w' : World} {g : Nat} {cs : List Value} {t : TypeId} (h : Blk w g cs t) (hh : w'.heap = w.heap) : Blk w' g cs t := by unfold Blk; rw [hh]; exact h
theorem splice_mem {l m : List Value} {k : Nat} {u : Value} (h : u ∈ splice l k m) : u ∈ l ∨ u ∈ m := by
  simp only [splice, List.mem_append] at h
  rcases h with h | h | h
  · exact .inl (List.mem_of_mem_take h)
  · exact .inr h
  · exact .inl (List.mem_of_mem_drop h)
def isNilI : Value → Bool
  | .nilIface => true
  | _ => false
theorem nil_ahead (a : Addr) (w : World) : (nilAhead 238 67 (.pointer (some a)) "Read").run Try.prog w = .ok (some false) w := by kernel_rfl
theorem method_read (a : Addr) (w : World) : (method 238 67 (.pointer (some a)) "Read").run Try.prog w = .ok (85, .pointer (some a)) w := by kernel_rfl
set_option maxRecDepth 100000 in
theorem readFull_ok (gf b o len c m : Nat) (bs : List UInt8) (e : Value) (tf : TypeId) (g off cap : Nat) (cur : List Value) (t : TypeId) (w : World) (hf : Blk w gf (feedC (some ⟨b, o, none⟩) len c e) tf) (hr : Rd w (some ⟨b, o, none⟩) bs)
    (hl : bs.length = len) (h0 : 0 < m) (hm : m ≤ len) (hlc : len ≤ c) (hc : c ≤ 9223372036854775807) (hmc : m ≤ cap) (hg : Blk w g cur t) (hfit : off + m ≤ cur.length) (hgf : g ≠ gf) (hbg : b ≠ g) (hbf : b ≠ gf) :
    Calls Try.prog 46 #[.iface 67 (.pointer (some ⟨gf, 0, none⟩)), .slice (some ⟨g, off, none⟩) m cap] w fun e' w' => e' = .returned (.tuple #[.int .i64 m, .nilIface]) ∧ Blk w' g (splice cur off (bvs (bs.take m))) t ∧ Two w w' g gf := by
  have hnil := nil_ahead ⟨gf, 0, none⟩
  have hmeth := method_read ⟨gf, 0, none⟩
  have HL := Lib.hid hl
  have HK : Hid (Nat.min len m = m) := Lib.hid (Nat.min_eq_right hm)
  clear hl
  go_enter Try.func46, Try.ntmps46
  go_wp2
  go_loopw [4, 5] (fun n er wr => (n = .int .i64 0 ∧ er = .nilIface ∧ w = wr) ∨ (n = .int .i64 m ∧ er = .nilIface ∧ Blk wr g (splice cur off (bvs (bs.take m))) t ∧ Two w wr g gf)) (fun n _ _ => m - (intOf n).toNat)
  case atStart => exact .inl ⟨rfl, rfl, rfl⟩
  case round =>
    rcases hrel with ⟨rfl, rfl, rfl⟩ | ⟨rfl, rfl, hB, hT⟩
    · go_wp2
      refine region_plan (fun _ => True) [(0, 0), (1, 0), (2, 0), (3, 0), (4, 1), (5, 0), (6, 0), (7, 1), (8, 0), (9, 0), (10, 0), (11, 0), (12, 0)] rfl (by kernel_rfl) (by kernel_rfl) rfl (by intro c a d v w h; cases d <;> exact h) (fun _ _ _ => trivial) ?_
      intro w2 hh hb2
      simp only [planOps, List.filterMap_cons, List.filterMap_nil, List.getElem?_cons_succ, List.getElem?_cons_zero, Option.map_some]
      repeat (first | (refine plan_still rfl (still_slice_from rfl Try.underlying22 (by kernel_rfl) rfl rfl (by omega) (by omega)) ?_) | (refine plan_skip rfl ?_) | (refine plan_still (v := ?_) rfl (fun w' hS => ?_) ?_; rotate_left; (focus (go_simp; first | done | with_reducible rfl))); simp only [Act.put, List.setIfInBounds_toArray, List.set_cons_zero, List.set_cons_succ])
      refine plan_do ?_
      go_wp2
      refine ⟨trivial, ?_⟩
      repeat (first | (refine plan_skip rfl ?_) | (refine plan_still (v := ?_) rfl (fun w' hS => ?_) ?_; rotate_left; (focus (go_simp; first | done | with_reducible rfl))); simp only [Act.put, List.setIfInBounds_toArray, List.set_cons_zero, List.set_cons_succ])
      refine plan_do ?_
      have hf2 := hf.heap hh
      have hg2 := hg.heap hh
      have hr2 := hr.kept hb2
      have T0 : Two w w2 g gf := ⟨hb2.os, hb2.tape, hb2.output, by rw [hh], fun k hk _ _ => by rw [hh]⟩
      go_wp2_with (go_at_call 85; refine (feedRead_some gf b o len c m bs e tf g off m cap cur t _ hf2 hr2 HL.out (by omega) hlc hc hg2 HK.out hfit hgf hbg hbf).mono ?_)
      rintro e3 w3 ⟨rfl, b3, -, T3⟩
      have T03 := T0.trans T3
      go_wp2
      refine ⟨trivial, ?_⟩
      repeat (first | (refine plan_skip rfl ?_) | (refine plan_still (v := ?_) rfl (fun w' hS => ?_) ?_; rotate_left; (focus (go_simp; first | done | with_reducible rfl))); simp only [Act.put, List.setIfInBounds_toArray, List.set_cons_zero, List.set_cons_succ])
      refine plan_nil ?_
      go_wp2
      go_roundw
      case rel => exact .inr ⟨rfl, rfl, b3, T03⟩
      case measure => simp [intOf]; omega
    · go_wp2
      exact ret_tmp2 rfl rfl rfl rfl ⟨rfl, hB, hT⟩
set_option maxRecDepth 100000 in
theorem readFull_empty (gf c m : Nat) (a0 : Option Addr) (tf : TypeId) (g off cap : Nat) (cur : List Value) (t : TypeId) (w : World) (hf : Blk w gf (feedC a0 0 c (.iface 68 (.string EOF))) tf) (h0 : 0 < m) (hm : m ≤ 9223372036854775807) (hmc : m ≤ cap) (hg : Blk w g cur t) :
    Calls Try.prog 46 #[.iface 67 (.pointer (some ⟨gf, 0, none⟩)), .slice (some ⟨g, off, none⟩) m cap] w fun e' w' => (∃ n msg, e' = .returned (.tuple #[.int .i64 n, .iface 68 (.string msg)])) ∧ (∃ cur', cur'.length = cur.length ∧ (∀ u ∈ cur', u ∈ cur ∨ u.oneCell' = true) ∧ Blk w' g cur' t) ∧ Two w w' g gf := by
  have hnil := nil_ahead ⟨gf, 0, none⟩
  have hmeth := method_read ⟨gf, 0, none⟩
  unfold EOF at hf
  go_enter Try.func46, Try.ntmps46
  go_wp2
  go_loopw [4, 5] (fun n er wr => (n = .int .i64 0 ∧ er = .nilIface ∧ w = wr) ∨ (n = .int .i64 0 ∧ er = (.iface 68 (.string EOF)) ∧ Blk wr g cur t ∧ Two w wr g gf)) (fun _ er _ => if isNilI er then 1 else 0)
  case atStart => exact .inl ⟨rfl, rfl, rfl⟩
  case round =>
    rcases hrel with ⟨rfl, rfl, rfl⟩ | ⟨rfl, rfl, hB, hT⟩
    · go_wp2
      refine region_plan (fun _ => True) [(0, 0), (1, 0), (2, 0), (3, 0), (4, 1), (5, 0), (6, 0), (7, 1), (8, 0), (9, 0), (10, 0), (11, 0), (12, 0)] rfl (by kernel_rfl) (by kernel_rfl) rfl (by intro c a d v w h; cases d <;> exact h) (fun _ _ _ => trivial) ?_
      intro w2 hh hb2
      simp only [planOps, List.filterMap_cons, List.filterMap_nil, List.getElem?_cons_succ, List.getElem?_cons_zero, Option.map_some]
      repeat (first | (refine plan_still rfl (still_slice_from rfl Try.underlying22 (by kernel_rfl) rfl rfl (by omega) (by omega)) ?_) | (refine plan_skip rfl ?_) | (refine plan_still (v := ?_) rfl (fun w' hS => ?_) ?_; rotate_left; (focus (go_simp; first | done | with_reducible rfl))); simp only [Act.put, List.setIfInBounds_toArray, List.set_cons_zero, List.set_cons_succ])
      refine plan_do ?_
      go_wp2
      refine ⟨trivial, ?_⟩
      repeat (first | (refine plan_skip rfl ?_) | (refine plan_still (v := ?_) rfl (fun w' hS => ?_) ?_; rotate_left; (focus (go_simp; first | done | with_reducible rfl))); simp only [Act.put, List.setIfInBounds_toArray, List.set_cons_zero, List.set_cons_succ])
      refine plan_do ?_
      have hf2 := hf.heap hh
      have hg2 := hg.heap hh
      have T0 : Two w w2 g gf := ⟨hb2.os, hb2.tape, hb2.output, by rw [hh], fun k hk _ _ => by rw [hh]⟩
      go_wp2_with (go_at_call 85; refine (feedRead_end gf a0 c _ tf (some ⟨g, off, none⟩) m cap _ hf2).mono ?_)
      rintro e3 w3 ⟨rfl, n3, rfl⟩
      have T03 := T0.drew n3
      have hg3 : Blk (w2.drewN n3) g cur t := hg2
      go_wp2
      refine ⟨trivial, ?_⟩
      repeat (first | (refine plan_skip rfl ?_) | (refine plan_still (v := ?_) rfl (fun w' hS => ?_) ?_; rotate_left; (focus (go_simp; first | done | with_reducible rfl))); simp only [Act.put, List.setIfInBounds_toArray, List.set_cons_zero, List.set_cons_succ])
      refine plan_nil ?_
      go_wp2
      go_roundw
      case rel => exact .inr ⟨rfl, rfl, hg3, T03⟩
      case measure => simp [isNilI]
    · unfold EOF
      go_wp2
      exact ret_tmp2 rfl rfl rfl rfl ⟨⟨_, _, rfl⟩, ⟨cur, rfl, fun u hu => .inl hu, hB⟩, hT⟩
set_option maxRecDepth 100000 in
theorem readFull_short (gf b o len c m : Nat) (bs : List UInt8) (tf : TypeId) (g off cap : Nat) (cur : List Value) (t : TypeId) (w : World) (hf : Blk w gf (feedC (some ⟨b, o, none⟩) len c (.iface 68 (.string EOF))) tf) (hr : Rd w (some ⟨b, o, none⟩) bs)
    (hl : bs.length = len) (h0 : 0 < len) (hm : len < m) (hm2 : m ≤ 9223372036854775807) (hlc : len ≤ c) (hc : c ≤ 9223372036854775807) (hmc : m ≤ cap) (hg : Blk w g cur t) (hfit : off + m ≤ cur.length) (hgf : g ≠ gf) (hbg : b ≠ g) (hbf : b ≠ gf) :
    Calls Try.prog 46 #[.iface 67 (.pointer (some ⟨gf, 0, none⟩)), .slice (some ⟨g, off, none⟩) m cap] w fun e' w' => (∃ n msg, e' = .returned (.tuple #[.int .i64 n, .iface 68 (.string msg)])) ∧ (∃ cur', cur'.length = cur.length ∧ (∀ u ∈ cur', u ∈ cur ∨ u.oneCell' = true) ∧ Blk w' g cur' t) ∧ Two w w' g gf := by
  have hnil := nil_ahead ⟨gf, 0, none⟩
  have hmeth := method_read ⟨gf, 0, none⟩
  unfold EOF at hf
  have HL := Lib.hid hl
  have HK : Hid (Nat.min len m = len) := Lib.hid (Nat.min_eq_left (by omega))
  have HS : Hid ((splice cur off (bvs (bs.take len))).length = cur.length) := Lib.hid (length_splice _ _ _ (by rw [bvs_length, List.length_take]; omega))
  have HM : Hid (∀ u ∈ splice cur off (bvs (bs.take len)), u ∈ cur ∨ u.oneCell' = true) := Lib.hid (fun u hu => (splice_mem hu).imp id (bvs_one _ u))
  have H0 : Hid (len - len = 0) := Lib.hid (by omega)
  clear hl
  go_enter Try.func46, Try.ntmps46
  go_wp2
  go_loopw [4, 5] (fun n er wr => (n = .int .i64 0 ∧ er = .nilIface ∧ w = wr) ∨ (n = .int .i64 len ∧ er = .nilIface ∧ (∃ cur', cur'.length = cur.length ∧ (∀ u ∈ cur', u ∈ cur ∨ u.oneCell' = true) ∧ Blk wr g cur' t) ∧ Two w wr g gf ∧ ∃ a' c', Blk wr gf (feedC a' 0 c' (.iface 68 (.string EOF))) tf) ∨ (n = .int .i64 len ∧ er = (.iface 68 (.string EOF)) ∧ (∃ cur', cur'.length = cur.length ∧ (∀ u ∈ cur', u ∈ cur ∨ u.oneCell' = true) ∧ Blk wr g cur' t) ∧ Two w wr g gf)) (fun n er _ => if isNilI er then (if intOf n = 0 then 2 else 1) else 0)
  case atStart => exact .inl ⟨rfl, rfl, rfl⟩
  case round =>
    rcases hrel with ⟨rfl, rfl, rfl⟩ | ⟨rfl, rfl, ⟨cur', hc1, hc2, hB⟩, hT, a', c', hF⟩ | ⟨rfl, rfl, hB, hT⟩
    · go_wp2
      refine region_plan (fun _ => True) [(0, 0), (1, 0), (2, 0), (3, 0), (4, 1), (5, 0), (6, 0), (7, 1), (8, 0), (9, 0), (10, 0), (11, 0), (12, 0)] rfl (by kernel_rfl) (by kernel_rfl) rfl (by intro c a d v w h; cases d <;> exact h) (fun _ _ _ => trivial) ?_
      intro w2 hh hb2
      simp only [planOps, List.filterMap_cons, List.filterMap_nil, List.getElem?_cons_succ, List.getElem?_cons_zero, Option.map_some]
      repeat (first | (refine plan_still rfl (still_slice_from rfl Try.underlying22 (by kernel_rfl) rfl rfl (by omega) (by omega)) ?_) | (refine plan_skip rfl ?_) | (refine plan_still (v := ?_) rfl (fun w' hS => ?_) ?_; rotate_left; (focus (go_simp; first | done | with_reducible rfl))); simp only [Act.put, List.setIfInBounds_toArray, List.set_cons_zero, List.set_cons_succ])
      refine plan_do ?_
      go_wp2
      refine ⟨trivial, ?_⟩
      repeat (first | (refine plan_skip rfl ?_) | (refine plan_still (v := ?_) rfl (fun w' hS => ?_) ?_; rotate_left; (focus (go_simp; first | done | with_reducible rfl))); simp only [Act.put, List.setIfInBounds_toArray, List.set_cons_zero, List.set_cons_succ])
      refine plan_do ?_
      have hf2 := hf.heap hh
      have hg2 := hg.heap hh
      have hr2 := hr.kept hb2
      have T0 : Two w w2 g gf := ⟨hb2.os, hb2.tape, hb2.output, by rw [hh], fun k hk _ _ => by rw [hh]⟩
      go_wp2_with (go_at_call 85; refine (feedRead_some gf b o len c len bs _ tf g off m cap cur t _ hf2 hr2 HL.out h0 hlc hc hg2 HK.out (by omega) hgf hbg hbf).mono ?_)
      rintro e3 w3 ⟨rfl, b3, ⟨a3, f3, -⟩, T3⟩
      rw [H0.out] at f3
      have T03 := T0.trans T3
      go_wp2
      refine ⟨trivial, ?_⟩
      repeat (first | (refine plan_skip rfl ?_) | (refine plan_still (v := ?_) rfl (fun w' hS => ?_) ?_; rotate_left; (focus (go_simp; first | done | with_reducible rfl))); simp only [Act.put, List.setIfInBounds_toArray, List.set_cons_zero, List.set_cons_succ])
      refine plan_nil ?_
      go_wp2
      go_roundw
      case rel => exact .inr (.inl ⟨rfl, rfl, ⟨_, HS.out, HM.out, b3⟩, T03, ⟨_, _, f3⟩⟩)
      case measure => simp [isNilI, intOf, show ¬ len = 0 by omega]
    · unfold EOF at hF
      go_wp2
      refine region_plan (fun _ => True) [(0, 0), (1, 0), (2, 0), (3, 0), (4, 1), (5, 0), (6, 0), (7, 1), (8, 0), (9, 0), (10, 0), (11, 0), (12, 0)] rfl (by kernel_rfl) (by kernel_rfl) rfl (by intro c a d v w h; cases d <;> exact h) (fun _ _ _ => trivial) ?_
      intro w2 hh hb2
      simp only [planOps, List.filterMap_cons, List.filterMap_nil, List.getElem?_cons_succ, List.getElem?_cons_zero, Option.map_some]
      repeat (first | (refine plan_still rfl (still_slice_from rfl Try.underlying22 (by kernel_rfl) rfl rfl (by omega) (by omega)) ?_) | (refine plan_skip rfl ?_) | (refine plan_still (v := ?_) rfl (fun w' hS => ?_) ?_; rotate_left; (focus (go_simp; first | done | with_reducible rfl))); simp only [Act.put, List.setIfInBounds_toArray, List.set_cons_zero, List.set_cons_succ])
      refine plan_do ?_
      go_wp2
      refine ⟨trivial, ?_⟩
      repeat (first | (refine plan_skip rfl ?_) | (refine plan_still (v := ?_) rfl (fun w' hS => ?_) ?_; rotate_left; (focus (go_simp; first | done | with_reducible rfl))); simp only [Act.put, List.setIfInBounds_toArray, List.set_cons_zero, List.set_cons_succ])
      refine plan_do ?_
      have hf2 := hF.heap hh
      have hg2 := hB.heap hh
      have T0 : Two w w2 g gf := hT.trans ⟨hb2.os, hb2.tape, hb2.output, by rw [hh], fun k hk _ _ => by rw [hh]⟩
      go_wp2_with (go_at_call 85; refine (feedRead_end gf a' c' _ tf _ _ _ _ hf2).mono ?_)
      rintro e3 w3 ⟨rfl, n3, rfl⟩
      have T03 := T0.drew n3
      have hg3 : Blk (w2.drewN n3) g cur' t := hg2
      go_wp2
      refine ⟨trivial, ?_⟩
      repeat (first | (refine plan_skip rfl ?_) | (refine plan_still (v := ?_) rfl (fun w' hS => ?_) ?_; rotate_left; (focus (go_simp; first | done | with_reducible rfl))); simp only [Act.put, List.setIfInBounds_toArray, List.set_cons_zero, List.set_cons_succ])
      refine plan_nil ?_
      go_wp2
      go_roundw
      case rel => exact .inr (.inr ⟨rfl, rfl, ⟨_, hc1, hc2, hg3⟩, T03⟩)
      case measure => simp [isNilI, intOf, show ¬ len = 0 by omega]
    · unfold EOF
      have hb1 : ((len : Int) > 0) := by omega
      have hq : ∀ w, (binOp .eql 57 (.iface 68 (.string ⟨#[69, 79, 70]⟩)) (.iface 68 (.string ⟨#[69, 79, 70]⟩))).run Try.prog w = .ok (.bool true) w := fun _ => by kernel_rfl
      go_wp2
      exact ret_tmp2 rfl rfl rfl rfl ⟨⟨_, _, rfl⟩, hB, hT⟩
end Go.Proofs.Ytbnkbgbgdolihaa
