/- Contracts of SHA-1's Reset, New and Sum. -/
import Derived.Test.YtjmmkjdlkecmhaaShaSum
namespace Go.Proofs.Ytjmmkjdlkecmhaa
open Go.RowKit
set_option linter.unusedVariables false
set_option linter.unusedSimpArgs false
set_option maxRecDepth 100000 in
theorem reset_ok (g : Nat) (h : Hs) (x : List UInt8) (nx len : Nat) (t : TypeId) (w : World) (hx : x.length = 64) (hB : Blk w g (dcells h x nx len) t) :
    Calls Try.prog 16 #[.pointer (some ⟨g, 0, none⟩)] w fun e w' => e = .returned (.tuple #[]) ∧ Dg w' g [] 0 t ∧ w.grownBy w' (some g) := by
  go_enter Try.func16, Try.ntmps16
  refine of_keeps 28 [(0, .pointer (some ⟨g, 0, none⟩))] ⟨by kernel_rfl, rfl, fun x hx => by simp at hx; rcases hx with rfl; rfl⟩ fun a hk => ?_
  refine wp_seq_k fun K0 hK0 => ?_
  refine wp_region_lit ?_
  refine list_k rfl rfl hk (by decide) (by repeat' (first | exact far_nil _ | refine far_cons (by decide) ?_)) (v := .pointer (some ⟨g, 0, none⟩)) (do_move rfl (hk.at (List.mem_cons_self ..))) ?_
  clear hk; intro a hk
  refine list_k rfl rfl hk (by decide) (by repeat' (first | exact far_nil _ | refine far_cons (by decide) ?_)) (v := .pointer (some ⟨g, 0, none⟩)) (do_nilc rfl (hk.at (List.mem_cons_self ..))) ?_
  clear hk; intro a hk
  refine list_k rfl rfl hk (by decide) (by repeat' (first | exact far_nil _ | refine far_cons (by decide) ?_)) (v := .pointer (some ⟨g, 0, none⟩)) (do_fld48_0 rfl (hk.at (List.mem_cons_self ..))) ?_
  clear hk; intro a hk
  refine list_k rfl rfl hk (by decide) (by repeat' (first | exact far_nil _ | refine far_cons (by decide) ?_)) (v := .pointer (some ⟨g, 0, none⟩)) (do_hat' (j := 0) rfl (hk.at (List.mem_cons_self ..)) (by decide)) ?_
  clear hk; intro a hk
  refine wp_store_cell (v := .int .u32 1732584193) rfl rfl (by kernel_rfl) (hk.at (List.mem_cons_self ..)) rfl rfl hB (by rw [dcells_length hx]; decide) fun w1 c1 g1 s1 => ?_
  refine keep_0 hk ?_
  clear hk; intro a hk
  refine hK0 _ _ ?_
  clear hK0
  have b1 : Blk w1 g (dcells ⟨1732584193, h.b, h.c, h.d, h.e⟩ x nx len) t := c1
  clear c1 s1
  have hk2 : Keeps 28 ([(0, .pointer (some ⟨g, 0, none⟩))]) a := by
    refine ⟨hk.1, hk.2.1, fun x hx => hk.2.2 x ?_⟩
    rcases List.mem_cons.1 hx with rfl | hx
    · exact List.mem_cons_of_mem _ (List.mem_cons_of_mem _ (List.mem_cons_of_mem _ (List.mem_cons_of_mem _ (List.mem_cons_self ..))))
    cases hx
  clear hk
  have hk := hk2
  clear hk2
  refine wp_seq_k fun K1 hK1 => ?_
  refine wp_region_lit ?_
  refine list_k rfl rfl hk (by decide) (by repeat' (first | exact far_nil _ | refine far_cons (by decide) ?_)) (v := .pointer (some ⟨g, 0, none⟩)) (do_move rfl (hk.at (List.mem_cons_self ..))) ?_
  clear hk; intro a hk
  refine list_k rfl rfl hk (by decide) (by repeat' (first | exact far_nil _ | refine far_cons (by decide) ?_)) (v := .pointer (some ⟨g, 0, none⟩)) (do_nilc rfl (hk.at (List.mem_cons_self ..))) ?_
  clear hk; intro a hk
  refine list_k rfl rfl hk (by decide) (by repeat' (first | exact far_nil _ | refine far_cons (by decide) ?_)) (v := .pointer (some ⟨g, 0, none⟩)) (do_fld48_0 rfl (hk.at (List.mem_cons_self ..))) ?_
  clear hk; intro a hk
  refine list_k rfl rfl hk (by decide) (by repeat' (first | exact far_nil _ | refine far_cons (by decide) ?_)) (v := .pointer (some ⟨g, 1, none⟩)) (do_hat' (j := 1) rfl (hk.at (List.mem_cons_self ..)) (by decide)) ?_
  clear hk; intro a hk
  refine wp_store_cell (v := .int .u32 4023233417) rfl rfl (by kernel_rfl) (hk.at (List.mem_cons_self ..)) rfl rfl b1 (by rw [dcells_length hx]; decide) fun w2 c2 g2 s2 => ?_
  refine keep_0 hk ?_
  clear hk; intro a hk
  refine hK1 _ _ ?_
  clear hK1
  have b2 : Blk w2 g (dcells ⟨1732584193, 4023233417, h.c, h.d, h.e⟩ x nx len) t := c2
  clear c2 s2
  have hk2 : Keeps 28 ([(0, .pointer (some ⟨g, 0, none⟩))]) a := by
    refine ⟨hk.1, hk.2.1, fun x hx => hk.2.2 x ?_⟩
    rcases List.mem_cons.1 hx with rfl | hx
    · exact List.mem_cons_of_mem _ (List.mem_cons_of_mem _ (List.mem_cons_of_mem _ (List.mem_cons_of_mem _ (List.mem_cons_self ..))))
    cases hx
  clear hk
  have hk := hk2
  clear hk2
  refine wp_seq_k fun K2 hK2 => ?_
  refine wp_region_lit ?_
  refine list_k rfl rfl hk (by decide) (by repeat' (first | exact far_nil _ | refine far_cons (by decide) ?_)) (v := .pointer (some ⟨g, 0, none⟩)) (do_move rfl (hk.at (List.mem_cons_self ..))) ?_
  clear hk; intro a hk
  refine list_k rfl rfl hk (by decide) (by repeat' (first | exact far_nil _ | refine far_cons (by decide) ?_)) (v := .pointer (some ⟨g, 0, none⟩)) (do_nilc rfl (hk.at (List.mem_cons_self ..))) ?_
  clear hk; intro a hk
  refine list_k rfl rfl hk (by decide) (by repeat' (first | exact far_nil _ | refine far_cons (by decide) ?_)) (v := .pointer (some ⟨g, 0, none⟩)) (do_fld48_0 rfl (hk.at (List.mem_cons_self ..))) ?_
  clear hk; intro a hk
  refine list_k rfl rfl hk (by decide) (by repeat' (first | exact far_nil _ | refine far_cons (by decide) ?_)) (v := .pointer (some ⟨g, 2, none⟩)) (do_hat' (j := 2) rfl (hk.at (List.mem_cons_self ..)) (by decide)) ?_
  clear hk; intro a hk
  refine wp_store_cell (v := .int .u32 2562383102) rfl rfl (by kernel_rfl) (hk.at (List.mem_cons_self ..)) rfl rfl b2 (by rw [dcells_length hx]; decide) fun w3 c3 g3 s3 => ?_
  refine keep_0 hk ?_
  clear hk; intro a hk
  refine hK2 _ _ ?_
  clear hK2
  have b3 : Blk w3 g (dcells ⟨1732584193, 4023233417, 2562383102, h.d, h.e⟩ x nx len) t := c3
  clear c3 s3
  have hk2 : Keeps 28 ([(0, .pointer (some ⟨g, 0, none⟩))]) a := by
    refine ⟨hk.1, hk.2.1, fun x hx => hk.2.2 x ?_⟩
    rcases List.mem_cons.1 hx with rfl | hx
    · exact List.mem_cons_of_mem _ (List.mem_cons_of_mem _ (List.mem_cons_of_mem _ (List.mem_cons_of_mem _ (List.mem_cons_self ..))))
    cases hx
  clear hk
  have hk := hk2
  clear hk2
  refine wp_seq_k fun K3 hK3 => ?_
  refine wp_region_lit ?_
  refine list_k rfl rfl hk (by decide) (by repeat' (first | exact far_nil _ | refine far_cons (by decide) ?_)) (v := .pointer (some ⟨g, 0, none⟩)) (do_move rfl (hk.at (List.mem_cons_self ..))) ?_
  clear hk; intro a hk
  refine list_k rfl rfl hk (by decide) (by repeat' (first | exact far_nil _ | refine far_cons (by decide) ?_)) (v := .pointer (some ⟨g, 0, none⟩)) (do_nilc rfl (hk.at (List.mem_cons_self ..))) ?_
  clear hk; intro a hk
  refine list_k rfl rfl hk (by decide) (by repeat' (first | exact far_nil _ | refine far_cons (by decide) ?_)) (v := .pointer (some ⟨g, 0, none⟩)) (do_fld48_0 rfl (hk.at (List.mem_cons_self ..))) ?_
  clear hk; intro a hk
  refine list_k rfl rfl hk (by decide) (by repeat' (first | exact far_nil _ | refine far_cons (by decide) ?_)) (v := .pointer (some ⟨g, 3, none⟩)) (do_hat' (j := 3) rfl (hk.at (List.mem_cons_self ..)) (by decide)) ?_
  clear hk; intro a hk
  refine wp_store_cell (v := .int .u32 271733878) rfl rfl (by kernel_rfl) (hk.at (List.mem_cons_self ..)) rfl rfl b3 (by rw [dcells_length hx]; decide) fun w4 c4 g4 s4 => ?_
  refine keep_0 hk ?_
  clear hk; intro a hk
  refine hK3 _ _ ?_
  clear hK3
  have b4 : Blk w4 g (dcells ⟨1732584193, 4023233417, 2562383102, 271733878, h.e⟩ x nx len) t := c4
  clear c4 s4
  have hk2 : Keeps 28 ([(0, .pointer (some ⟨g, 0, none⟩))]) a := by
    refine ⟨hk.1, hk.2.1, fun x hx => hk.2.2 x ?_⟩
    rcases List.mem_cons.1 hx with rfl | hx
    · exact List.mem_cons_of_mem _ (List.mem_cons_of_mem _ (List.mem_cons_of_mem _ (List.mem_cons_of_mem _ (List.mem_cons_self ..))))
    cases hx
  clear hk
  have hk := hk2
  clear hk2
  refine wp_seq_k fun K4 hK4 => ?_
  refine wp_region_lit ?_
  refine list_k rfl rfl hk (by decide) (by repeat' (first | exact far_nil _ | refine far_cons (by decide) ?_)) (v := .pointer (some ⟨g, 0, none⟩)) (do_move rfl (hk.at (List.mem_cons_self ..))) ?_
  clear hk; intro a hk
  refine list_k rfl rfl hk (by decide) (by repeat' (first | exact far_nil _ | refine far_cons (by decide) ?_)) (v := .pointer (some ⟨g, 0, none⟩)) (do_nilc rfl (hk.at (List.mem_cons_self ..))) ?_
  clear hk; intro a hk
  refine list_k rfl rfl hk (by decide) (by repeat' (first | exact far_nil _ | refine far_cons (by decide) ?_)) (v := .pointer (some ⟨g, 0, none⟩)) (do_fld48_0 rfl (hk.at (List.mem_cons_self ..))) ?_
  clear hk; intro a hk
  refine list_k rfl rfl hk (by decide) (by repeat' (first | exact far_nil _ | refine far_cons (by decide) ?_)) (v := .pointer (some ⟨g, 4, none⟩)) (do_hat' (j := 4) rfl (hk.at (List.mem_cons_self ..)) (by decide)) ?_
  clear hk; intro a hk
  refine wp_store_cell (v := .int .u32 3285377520) rfl rfl (by kernel_rfl) (hk.at (List.mem_cons_self ..)) rfl rfl b4 (by rw [dcells_length hx]; decide) fun w5 c5 g5 s5 => ?_
  refine keep_0 hk ?_
  clear hk; intro a hk
  refine hK4 _ _ ?_
  clear hK4
  have b5 : Blk w5 g (dcells ⟨1732584193, 4023233417, 2562383102, 271733878, 3285377520⟩ x nx len) t := c5
  clear c5 s5
  have hk2 : Keeps 28 ([(0, .pointer (some ⟨g, 0, none⟩))]) a := by
    refine ⟨hk.1, hk.2.1, fun x hx => hk.2.2 x ?_⟩
    rcases List.mem_cons.1 hx with rfl | hx
    · exact List.mem_cons_of_mem _ (List.mem_cons_of_mem _ (List.mem_cons_of_mem _ (List.mem_cons_of_mem _ (List.mem_cons_self ..))))
    cases hx
  clear hk
  have hk := hk2
  clear hk2
  refine wp_seq_k fun K5 hK5 => ?_
  refine wp_region_lit ?_
  refine list_k rfl rfl hk (by decide) (by repeat' (first | exact far_nil _ | refine far_cons (by decide) ?_)) (v := .pointer (some ⟨g, 0, none⟩)) (do_move rfl (hk.at (List.mem_cons_self ..))) ?_
  clear hk; intro a hk
  refine list_k rfl rfl hk (by decide) (by repeat' (first | exact far_nil _ | refine far_cons (by decide) ?_)) (v := .pointer (some ⟨g, 0, none⟩)) (do_nilc rfl (hk.at (List.mem_cons_self ..))) ?_
  clear hk; intro a hk
  refine list_k rfl rfl hk (by decide) (by repeat' (first | exact far_nil _ | refine far_cons (by decide) ?_)) (v := .pointer (some ⟨g, 69, none⟩)) (do_fld48_2 rfl (hk.at (List.mem_cons_self ..))) ?_
  clear hk; intro a hk
  refine wp_store_cell (v := .int .i64 ((0 : Nat) : Int)) rfl rfl (by kernel_rfl) (hk.at (List.mem_cons_self ..)) rfl rfl b5 (by rw [dcells_length hx]; decide) fun w6 b6 g6 s6 => ?_
  rw [dcells_setnx hx] at b6
  refine keep_0 hk ?_
  clear hk; intro a hk
  refine hK5 _ _ ?_
  clear hK5
  have hk2 : Keeps 28 ([(0, .pointer (some ⟨g, 0, none⟩))]) a := by
    refine ⟨hk.1, hk.2.1, fun x hx => hk.2.2 x ?_⟩
    rcases List.mem_cons.1 hx with rfl | hx
    · exact List.mem_cons_of_mem _ (List.mem_cons_of_mem _ (List.mem_cons_of_mem _ (List.mem_cons_self ..)))
    cases hx
  clear hk
  have hk := hk2
  clear hk2
  refine wp_region_lit ?_
  refine list_k rfl rfl hk (by decide) (by repeat' (first | exact far_nil _ | refine far_cons (by decide) ?_)) (v := .pointer (some ⟨g, 0, none⟩)) (do_move rfl (hk.at (List.mem_cons_self ..))) ?_
  clear hk; intro a hk
  refine list_k rfl rfl hk (by decide) (by repeat' (first | exact far_nil _ | refine far_cons (by decide) ?_)) (v := .pointer (some ⟨g, 0, none⟩)) (do_nilc rfl (hk.at (List.mem_cons_self ..))) ?_
  clear hk; intro a hk
  refine list_k rfl rfl hk (by decide) (by repeat' (first | exact far_nil _ | refine far_cons (by decide) ?_)) (v := .pointer (some ⟨g, 70, none⟩)) (do_fld48_3 rfl (hk.at (List.mem_cons_self ..))) ?_
  clear hk; intro a hk
  refine wp_store_cell (v := .int .u64 ((0 : Nat) : Int)) rfl rfl (by kernel_rfl) (hk.at (List.mem_cons_self ..)) rfl rfl b6 (by rw [dcells_length hx]; decide) fun w7 b7 g7 s7 => ?_
  rw [dcells_setlen hx] at b7
  refine keep_0 hk ?_
  clear hk; intro a hk
  refine bodyPost_end (results_none rfl _ _ _) hk.2.1 ?_
  exact ⟨rfl, ⟨x, hx, rfl, b7⟩, grown_trans g1 (grown_trans g2 (grown_trans g3 (grown_trans g4 (grown_trans g5 (grown_trans g6 g7)))))⟩
def Zdg : List Value := dcells ⟨0, 0, 0, 0, 0⟩ (List.replicate 64 0) 0 0
theorem dgArr : Arr Try.prog 48 71 Zdg where
  und := ⟨_, Try.underlying48, rfl⟩
  size := by kernel_rfl
  zero := fun w => by kernel_rfl
  len := rfl
set_option maxRecDepth 100000 in
theorem shaNew_ok (w : World) :
    Calls Try.prog 9 #[] w fun e w' => e = .returned (.pointer (some ⟨w.heap.size, 0, none⟩)) ∧ Dg w' w.heap.size [] 0 48 ∧ Below w.heap.size w w' := by
  have hb := Below.refl w.heap.size w
  go_enter Try.func9, Try.ntmps9
  go_wp2_with (refine wp_alloc_blk dgArr hb rfl rfl rfl (Nat.le_refl _) ?_)
  intro w1 b1 g1 s1 hb1
  clear s1
  go_wp2_with (go_at_call 16; refine (reset_ok _ _ _ _ _ _ _ rfl b1).mono ?_; rintro e w2 ⟨rfl, D2, g2⟩)
  go_ret
  exact ⟨rfl, D2, hb1.grown g2 hb1.size (by rintro j ⟨⟩; exact Nat.le_refl _)⟩
theorem dcells_one (h : Hs) (x : List UInt8) (nx len : Nat) : ∀ u ∈ dcells h x nx len, u.oneCell' = true := by
  intro u hu
  simp only [dcells, hcells, List.mem_append, List.mem_cons, List.not_mem_nil, or_false] at hu
  rcases hu with (rfl | rfl | rfl | rfl | rfl) | (hu | rfl | rfl)
  all_goals first | rfl | exact bvs_one x u hu
set_option maxRecDepth 100000 in
theorem shaSum_ok (g : Nat) (m : List UInt8) (t : TypeId) (w : World) (hD : Dg w g m m.length t) (hsz : m.length ≤ 1000) :
    Calls Try.prog 11 #[.pointer (some ⟨g, 0, none⟩), .slice none 0 0] w fun e w' => ∃ v, e = .returned v ∧ OwnB w' w.heap.size 5 v (shaB m) ∧ Below w.heap.size w w' := by
  have hb := Below.refl w.heap.size w
  obtain ⟨x, hx, hxt, hB⟩ := hD
  have HX := Lib.hid (And.intro hx hxt)
  have hl := dcells_length (h := sums m) (nx := m.length % 64) (len := m.length) hx
  have hone := dcells_one (sums m) x (m.length % 64) m.length
  have HD : Hid (∀ w' g' t', Blk w' g' (dcells (sums m) x (m.length % 64) m.length) t' → Dg w' g' m m.length t') := Lib.hid fun w' g' t' h => ⟨x, hx, hxt, h⟩
  clear hx hxt
  generalize dcells (sums m) x (m.length % 64) m.length = cs at *
  have HL := Lib.hid hl
  have HO := Lib.hid hone
  have hL20 := Lib.hid (show (bvs (shaB m)).length = 20 by rw [bvs_length, shaB_length])
  have hL := Lib.hid (shaB_length m)
  clear hl hone HX
  go_enter Try.func11, Try.ntmps11
  go_wp2_with (first | (refine wp_load_blk dgArr rfl rfl rfl hB HL.out ?_) | (refine wp_alloc_blk dgArr hb rfl rfl rfl (Nat.le_refl _) ?_))
  intro w1 b1 g1 s1 hb1
  have S1 := Lib.hid s1
  clear s1
  go_wp2_with (refine wp_store_blk dgArr hb1 rfl rfl rfl rfl b1 (Nat.le_refl _) dgArr.len HL.out HO.out ?_)
  intro w2 b2 g2 s2 hb2
  clear s2
  go_wp2_with (first | (go_at_call 18; refine (checkSum_ok _ m _ _ (HD.out _ _ _ b2) hsz).mono ?_; rintro e w3 ⟨rfl, g3⟩; have hb3 := hb2.grown g3 hb2.size (by rintro j ⟨⟩; exact Nat.le_refl _)) | (refine wp_alloc_blk d20Arr hb3 rfl rfl rfl hb3.size ?_))
  intro w4 b4 g4 s4 hb4
  clear s4
  go_wp2_with (refine wp_store_blk d20Arr hb4 rfl rfl rfl rfl b4 hb3.size rfl hL20.out (bvs_one _) ?_)
  intro w5 b5 g5 s5 hb5
  clear s5
  have o5 : OwnB w5 w.heap.size 5 (.slice none 0 0) [] := ⟨rfl, .inl ⟨rfl, rfl⟩⟩
  have r5 := b5.rd (by rw [hL.out]; decide)
  go_wp2_with (at_builtin; refine wp_append_rd rfl rfl Try.underlying22 info5 rfl rfl rfl o5 r5 hL.out (by rw [hL.out]; decide) hb5.size ?_)
  intro v6 w6 o6 g6
  have hb6 := hb5.grown g6 hb5.size (by intro j hj; cases hj)
  go_wp2
  go_ret
  exact ⟨_, rfl, o6, hb6⟩
end Go.Proofs.Ytjmmkjdlkecmhaa
