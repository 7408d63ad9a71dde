/- Contract of SHA-1's block function: whole blocks taken up by the five words. -/
import Derived.Test.YtjmmkjdlkecmhaaShaLoop
namespace Go.Proofs.Ytjmmkjdlkecmhaa
open Go.RowKit
set_option linter.unusedVariables false
set_option linter.unusedSimpArgs false
theorem w16Arr : Arr Try.prog 62 16 (List.replicate 16 (.int .u32 0)) where
  und := ⟨_, Try.underlying62, rfl⟩
  size := by kernel_rfl
  zero := fun w => by kernel_rfl
  len := rfl
theorem ldWs_take (p : List UInt8) : ldWs (p.take 64) = ldWs p := by
  unfold ldWs
  refine List.map_congr_left fun i hi => ?_
  have hi' : i < 16 := by simpa using hi
  have e : ∀ j, j < 64 → B (p.take 64) j = B p j := fun j hj => by simp [B, List.getElem?_take, hj]
  unfold ldW
  rw [e _ (by omega), e _ (by omega), e _ (by omega), e _ (by omega)]
def Hv (gw g : Nat) (sl : Value) (hh : Hs) : List (Nat × Value) :=
  [(4, .pointer (some ⟨gw, 0, none⟩)), (1, sl), (0, .pointer (some ⟨g, 0, none⟩)), (5, .int .u32 hh.a), (6, .int .u32 hh.b), (7, .int .u32 hh.c), (8, .int .u32 hh.d), (9, .int .u32 hh.e)]
def lenOf : Value → Nat
  | .slice _ n _ => n
  | _ => 0
/-- Between two blocks. -/
def Jb (w : World) (g : Nat) (T : Hs) (a : Act) (w' : World) : Prop :=
  ∃ m hh ad c p W, Keeps 397 (Hv w.heap.size g (.slice ad (64 * m) c) hh) a ∧ Rd w ad p ∧ p.length = 64 * m ∧ 64 * m ≤ c ∧ blks m hh p = T ∧ Cells16 w' w.heap.size W ∧ w.grownBy w' none

set_option maxRecDepth 100000 in
theorem block_generic (g : Nat) (hh : Hs) (more : List Value) (t : TypeId) (m : Nat) (ad : Option Addr) (p : List UInt8) (c : Nat) (w : World) (hg : Blk w g (hcells hh ++ more) t) (hr : Rd w ad p) (hl : p.length = 64 * m) (hc : 64 * m ≤ c) :
    Calls Try.prog 22 #[.pointer (some ⟨g, 0, none⟩), .slice ad (64 * m) c] w fun e w' => e = .returned (.tuple #[]) ∧ Blk w' g (hcells (blks m hh p) ++ more) t ∧ w.grownBy w' (some g) := by
  have HT : Hid True := Lib.hid trivial
  go_enter Try.func22, Try.ntmps22
  refine of_keeps 397 [(1, .slice ad (64 * m) c), (0, .pointer (some ⟨g, 0, none⟩))] ⟨by kernel_rfl, rfl, fun x hx => by simp at hx; rcases hx with rfl | rfl <;> rfl⟩ fun a ka => ?_
  refine wp_seq_k fun K0 hK0 => ?_
  refine wp_region_lit ?_
  refine wp_alloc_blk w16Arr (Below.refl w.heap.size w) rfl rfl rfl (Nat.le_refl _) ?_
  intro w1 b1 g1 s1 hb1
  refine hK0 _ _ ?_
  clear hK0
  have k1 := ka.push (d := 4) (v := .pointer (some ⟨w.heap.size, 0, none⟩)) (by decide) (by repeat' (first | exact far_nil _ | refine far_cons (by decide) ?_))
  refine of_keeps 397 _ k1 fun a1 k1 => ?_
  clear ka
  have hW1 : Cells16 w1 w.heap.size (List.replicate 16 0) := ⟨by simp, _, by simpa using b1⟩
  have hgl := hg.lt
  have hg1 := hg.grown g1 (by simp)
  refine wp_seq_k fun K1 hK1 => ?_
  refine Rg1_ok (by constructor <;> first | rfl | kernel_rfl) hg1 (by intro c a d v w h; cases d <;> exact h) k1 fun a2 w2 hp2 hb2 k2 => hK1 _ _ ?_
  have hW2 := hW1.kept hb2
  have hG2 := grown_trans g1 (grown_below hb2 none)
  clear hK1 k1 hW1 g1 hb2 hp2
  refine wp_seq_k fun K2 hK2 => wp_block ?_
  refine wp_loop (Jb w g (blks m hh p)) (fun a' _ => lenOf (a'.eval (.tmp 1))) ⟨m, hh, ad, c, p, _, k2, hr, hl, hc, rfl, hW2, hG2⟩ ?_
  clear k2 hW2 hG2 hr hl hc hg1 hb1
  generalize blks m hh p = T at *
  rintro a3 w3 ⟨m', h', ad', c', p', W', k3, hr3, hl3, hc3, hT, hW3, hG3⟩
  have hmu : lenOf (a3.eval (.tmp 1)) = 64 * m' := by
    rw [k3.at (t := 1) (v := .slice ad' (64 * m') c') (by simp [Hv])]
    rfl
  refine wp_seq_k fun K3 hK3 => ?_
  refine wp_seq_k fun K4 hK4 => ?_
  refine Rg2_ok (by constructor <;> first | rfl | kernel_rfl) k3 fun a4 k4 => hK4 _ _ (wp_cond (k4.at (List.mem_cons_self ..)) ?_)
  have k4' : Keeps 397 (Hv w.heap.size g (.slice ad' (64 * m') c') h') a4 := k4.sub fun x hx => List.mem_cons_of_mem _ hx
  clear hK4 k4 k3
  cases m' with
  | zero =>
    rw [decide_eq_false (by decide)]
    refine wp_exit ?_
    show K2 a4 w3
    refine hK2 _ _ ?_
    have hT' : h' = T := hT
    subst hT'
    have hg3 := hg.grown hG3 (by simp)
    refine Rg49_ok (by constructor <;> first | rfl | kernel_rfl) hg3 (by intro c a d v w h; cases d <;> exact h) (k4'.sub fun x hx => List.mem_cons_of_mem _ hx) fun a5 w5 k5 hg5 gr5 => ?_
    refine bodyPost_end (results_none rfl _ _ _) k5.2.1 ?_
    exact ⟨rfl, hg5, grown_trans (grown_none hG3 _) gr5⟩
  | succ n =>
    rw [decide_eq_true (by omega)]
    refine wp_skip (hK3 _ _ ?_)
    clear hK3 hK2
    obtain ⟨pb, po, rfl, hcell⟩ := hr3.2.resolve_left (by intro h; rw [h] at hl3; simp at hl3 <;> omega)
    have hpb : pb < w.heap.size := World.block_lt_of_cell? w _ (hcell 0 (by omega))
    clear hcell
    have hr3' : Rd w3 (some ⟨pb, po, none⟩) p' := hr3.grown hG3 (fun x hx => by simp)
    refine wp_block ?_
    refine wp_seq_k fun K6 hK6 => ?_
    refine wp_seq_k fun K5 hK5 => ?_
    refine Rg3_ok (by constructor <;> first | rfl | kernel_rfl) k4' fun a5 k5 => hK5 _ _ ?_
    clear hK5 k4'
    refine loopL_ok (hh := h') (p := p') (W := W') (by constructor <;> first | rfl | kernel_rfl) (by constructor <;> first | rfl | kernel_rfl) (by constructor <;> first | rfl | kernel_rfl) (by constructor <;> first | rfl | kernel_rfl) (by omega) hl3 hr3' (by omega) (by intro c a d v w h; cases d <;> exact h) k5 hW3 fun a6 w6 k6 hW6 gr6 => hK6 _ _ ?_
    have hG6 := grown_new hG3 gr6 (Nat.le_refl _)
    clear hK6 k5 hW3 hr3' gr6
    have k6' : Keeps 397 (Hv w.heap.size g (.slice (some ⟨pb, po, none⟩) (64 * (n + 1)) c') h') a6 := k6.sub fun x hx => by
      simp [Hv] at hx
      simp [Lv]
      rcases hx with rfl | rfl | rfl | rfl | rfl | rfl | rfl | rfl <;> simp
    refine wp_seq_k fun K7 hK7 => ?_
    refine Rg8_ok (by constructor <;> first | rfl | kernel_rfl) k6' fun a7 k7 => hK7 _ _ ?_
    clear hK7 k6 k6'
    refine wp_seq_k fun K8 hK8 => ?_
    refine Rg9_ok (by constructor <;> first | rfl | kernel_rfl) k7 fun a8 k8 => hK8 _ _ ?_
    clear hK8 k7
    have hR : ∀ x ∈ [(1, Value.slice (some ⟨pb, po, none⟩) (64 * (n + 1)) c'), (0, Value.pointer (some ⟨g, 0, none⟩)), (5, Value.int .u32 h'.a), (6, Value.int .u32 h'.b), (7, Value.int .u32 h'.c), (8, Value.int .u32 h'.d), (9, Value.int .u32 h'.e)], x.1 < 10 := by
      intro x hx
      simp at hx
      rcases hx with rfl | rfl | rfl | rfl | rfl | rfl | rfl <;> exact Nat.le_of_ble_eq_true rfl
    have k8' : Keeps 397 (Ev w.heap.size 0 ⟨h'.a, h'.b, h'.c, h'.d, h'.e, ldWs p'⟩ [(1, Value.slice (some ⟨pb, po, none⟩) (64 * (n + 1)) c'), (0, Value.pointer (some ⟨g, 0, none⟩)), (5, Value.int .u32 h'.a), (6, Value.int .u32 h'.b), (7, Value.int .u32 h'.c), (8, Value.int .u32 h'.d), (9, Value.int .u32 h'.e)]) a8 := k8
    clear k8
    refine wp_seq_k fun K9 hK9 => ?_
    refine loopA_ok (bc := 102) (bu := 114) (bm := 126) (bi := 104) (df := 18) (du := 19) (n := 16) (by constructor <;> first | rfl | kernel_rfl) (by decide) (by decide) (RF.A (b := 106) (by constructor <;> first | rfl | kernel_rfl) (by decide) (by decide) (by decide) (by decide)) (by decide) (by decide) (by constructor <;> first | rfl | kernel_rfl) (by decide) (by decide) (by decide) (by decide) (by decide) (by constructor <;> first | rfl | kernel_rfl) (by decide) (by decide) (by constructor <;> first | rfl | kernel_rfl) (by decide) (by decide) (by decide) hR (by intro c a d v w h; cases d <;> exact h) k8' hW6 fun a9 w9 k9 hW9 gr9 => hK9 _ _ ?_
    have hG9 := grown_new hG6 gr9 (Nat.le_refl _)
    clear hK9 k8' hW6 hG6 gr9
    refine wp_seq_k fun K10 hK10 => ?_
    refine loopS_ok (bc := 132) (bt := 136) (bs := 158) (bu := 171) (bm := 183) (bi := 134) (dt := 20) (df := 21) (du := 22) (lo := 16) (n := 4) (hi := 20) (by constructor <;> first | rfl | kernel_rfl) (by decide) (by decide) (by constructor <;> first | rfl | kernel_rfl) (by decide) (by decide) (by decide) (by decide) (by constructor <;> first | rfl | kernel_rfl) (by decide) (by decide) (RF.A (b := 163) (by constructor <;> first | rfl | kernel_rfl) (by decide) (by decide) (by decide) (by decide)) (by decide) (by decide) (by constructor <;> first | rfl | kernel_rfl) (by decide) (by decide) (by decide) (by decide) (by decide) (by constructor <;> first | rfl | kernel_rfl) (by decide) (by decide) (by constructor <;> first | rfl | kernel_rfl) (by decide) (by decide) (by decide) rfl (by decide) hR (by intro c a d v w h; cases d <;> exact h) k9 hW9 fun a10 w10 k10 hW10 gr10 => hK10 _ _ ?_
    have hG10 := grown_new hG9 gr10 (Nat.le_refl _)
    clear hK10 k9 hW9 hG9 gr10
    refine wp_seq_k fun K11 hK11 => ?_
    refine loopS_ok (bc := 189) (bt := 193) (bs := 215) (bu := 225) (bm := 237) (bi := 191) (dt := 23) (df := 24) (du := 25) (lo := 20) (n := 20) (hi := 40) (by constructor <;> first | rfl | kernel_rfl) (by decide) (by decide) (by constructor <;> first | rfl | kernel_rfl) (by decide) (by decide) (by decide) (by decide) (by constructor <;> first | rfl | kernel_rfl) (by decide) (by decide) (RF.B (b := 220) (by constructor <;> first | rfl | kernel_rfl) (by decide) (by decide) (by decide) (by decide)) (by decide) (by decide) (by constructor <;> first | rfl | kernel_rfl) (by decide) (by decide) (by decide) (by decide) (by decide) (by constructor <;> first | rfl | kernel_rfl) (by decide) (by decide) (by constructor <;> first | rfl | kernel_rfl) (by decide) (by decide) (by decide) rfl (by decide) hR (by intro c a d v w h; cases d <;> exact h) k10 hW10 fun a11 w11 k11 hW11 gr11 => hK11 _ _ ?_
    have hG11 := grown_new hG10 gr11 (Nat.le_refl _)
    clear hK11 k10 hW10 hG10 gr11
    refine wp_seq_k fun K12 hK12 => ?_
    refine loopS_ok (bc := 243) (bt := 247) (bs := 269) (bu := 283) (bm := 295) (bi := 245) (dt := 26) (df := 27) (du := 28) (lo := 40) (n := 20) (hi := 60) (by constructor <;> first | rfl | kernel_rfl) (by decide) (by decide) (by constructor <;> first | rfl | kernel_rfl) (by decide) (by decide) (by decide) (by decide) (by constructor <;> first | rfl | kernel_rfl) (by decide) (by decide) (RF.C (b := 274) (by constructor <;> first | rfl | kernel_rfl) (by decide) (by decide) (by decide) (by decide)) (by decide) (by decide) (by constructor <;> first | rfl | kernel_rfl) (by decide) (by decide) (by decide) (by decide) (by decide) (by constructor <;> first | rfl | kernel_rfl) (by decide) (by decide) (by constructor <;> first | rfl | kernel_rfl) (by decide) (by decide) (by decide) rfl (by decide) hR (by intro c a d v w h; cases d <;> exact h) k11 hW11 fun a12 w12 k12 hW12 gr12 => hK12 _ _ ?_
    have hG12 := grown_new hG11 gr12 (Nat.le_refl _)
    clear hK12 k11 hW11 hG11 gr12
    refine wp_seq_k fun K13 hK13 => ?_
    refine loopS_ok (bc := 301) (bt := 305) (bs := 327) (bu := 337) (bm := 349) (bi := 303) (dt := 29) (df := 30) (du := 31) (lo := 60) (n := 20) (hi := 80) (by constructor <;> first | rfl | kernel_rfl) (by decide) (by decide) (by constructor <;> first | rfl | kernel_rfl) (by decide) (by decide) (by decide) (by decide) (by constructor <;> first | rfl | kernel_rfl) (by decide) (by decide) (RF.B (b := 332) (by constructor <;> first | rfl | kernel_rfl) (by decide) (by decide) (by decide) (by decide)) (by decide) (by decide) (by constructor <;> first | rfl | kernel_rfl) (by decide) (by decide) (by decide) (by decide) (by decide) (by constructor <;> first | rfl | kernel_rfl) (by decide) (by decide) (by constructor <;> first | rfl | kernel_rfl) (by decide) (by decide) (by decide) rfl (by decide) hR (by intro c a d v w h; cases d <;> exact h) k12 hW12 fun a13 w13 k13 hW13 gr13 => hK13 _ _ ?_
    have hG13 := grown_new hG12 gr13 (Nat.le_refl _)
    clear hK13 k12 hW12 hG12 gr13
    have hs5 : itR (rd1 fB 3395469782) 60 20 (itR (rd1 fC 2400959708) 40 20 (itR (rd1 fB 1859775393) 20 20 (itR (rd1 fA 1518500249) 16 4 (itR (stp fA 1518500249) 0 16 ⟨h'.a, h'.b, h'.c, h'.d, h'.e, ldWs p'⟩)))) = rounds80 ⟨h'.a, h'.b, h'.c, h'.d, h'.e, ldWs p'⟩ := rfl
    rw [hs5] at k13 hW13
    have hbl : blk h' (p'.take 64) = ⟨uAdd h'.a (rounds80 ⟨h'.a, h'.b, h'.c, h'.d, h'.e, ldWs p'⟩).a, uAdd h'.b (rounds80 ⟨h'.a, h'.b, h'.c, h'.d, h'.e, ldWs p'⟩).b, uAdd h'.c (rounds80 ⟨h'.a, h'.b, h'.c, h'.d, h'.e, ldWs p'⟩).c, uAdd h'.d (rounds80 ⟨h'.a, h'.b, h'.c, h'.d, h'.e, ldWs p'⟩).d, uAdd h'.e (rounds80 ⟨h'.a, h'.b, h'.c, h'.d, h'.e, ldWs p'⟩).e⟩ := by
      unfold blk
      rw [ldWs_take]
    clear hs5
    generalize rounds80 ⟨h'.a, h'.b, h'.c, h'.d, h'.e, ldWs p'⟩ = s5 at *
    have k14 : Keeps 397 [(4, .pointer (some ⟨w.heap.size, 0, none⟩)), (12, .int .u32 s5.a), (13, .int .u32 s5.b), (14, .int .u32 s5.c), (15, .int .u32 s5.d), (16, .int .u32 s5.e), (1, Value.slice (some ⟨pb, po, none⟩) (64 * (n + 1)) c'), (0, Value.pointer (some ⟨g, 0, none⟩)), (5, Value.int .u32 h'.a), (6, Value.int .u32 h'.b), (7, Value.int .u32 h'.c), (8, Value.int .u32 h'.d), (9, Value.int .u32 h'.e)] a13 := k13.sub fun x hx => by
      simp at hx
      simp [Ev]
      rcases hx with rfl | rfl | rfl | rfl | rfl | rfl | rfl | rfl | rfl | rfl | rfl | rfl | rfl <;> simp
    clear k13
    refine wp_seq_k fun K43 hK43 => ?_
    refine Rg43_ok (by constructor <;> first | rfl | kernel_rfl) k14 fun a43 k43 => hK43 _ _ ?_
    clear hK43 k14
    refine wp_seq_k fun K44 hK44 => ?_
    refine Rg44_ok (by constructor <;> first | rfl | kernel_rfl) k43 fun a44 k44 => hK44 _ _ ?_
    clear hK44 k43
    refine wp_seq_k fun K45 hK45 => ?_
    refine Rg45_ok (by constructor <;> first | rfl | kernel_rfl) k44 fun a45 k45 => hK45 _ _ ?_
    clear hK45 k44
    refine wp_seq_k fun K46 hK46 => ?_
    refine Rg46_ok (by constructor <;> first | rfl | kernel_rfl) k45 fun a46 k46 => hK46 _ _ ?_
    clear hK46 k45
    refine wp_seq_k fun K47 hK47 => ?_
    refine Rg47_ok (by constructor <;> first | rfl | kernel_rfl) k46 fun a47 k47 => hK47 _ _ ?_
    clear hK47 k46
    refine Rg48_ok (by constructor <;> first | rfl | kernel_rfl) (by omega) hc3 k47 fun a48 k48 => ?_
    have e64 : 64 * (n + 1) - 64 = 64 * n := by omega
    rw [e64] at k48
    refine ⟨⟨n, blk h' (p'.take 64), _, _, p'.drop 64, _, by rw [hbl]; exact k48, hr3.tailS (by omega), by rw [List.length_drop]; omega, by omega, hT, hW13, hG13⟩, ?_⟩
    rw [hmu, k48.at (t := 1) (v := .slice (some ⟨pb, tailOff c' 64 po, none⟩) (64 * n) (c' - 64)) (by simp)]
    show 64 * n < 64 * (n + 1)
    omega
end Go.Proofs.Ytjmmkjdlkecmhaa
