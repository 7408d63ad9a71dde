/- Contracts: Parse of a KSUID's text, and the thin package's KsuidRead. -/
import Derived.Test.YtbacbgicfomkbaaDec
import Derived.Test.YtbacbgicfomkbaaGuard
namespace Go.Proofs.Ytbacbgicfomkbaa
open Go.RowKit
set_option linter.unusedVariables false
set_option linter.unusedSimpArgs false

theorem still_str_all {P : Program} {S : World → Prop} {o : Oper} {a : Act} {t : TypeId} {x : Operand} (ho : o.op = .slice t x none none none) (hu : P.underlying t = some .string) {s : ByteArray} (hx : a.eval x = .string s) : ∀ w', S w' → (execOp a.eval o).run P w' = .ok (.value (.string s)) w' := by
  intro w' _
  have e : s.extract 0 s.size = s := by simp
  unfold execOp
  simp [ho, hx, Instr.sliceAt, run_underlying hu, Instr.slice, Instr.sliceBounds, Instr.sliceBound, asIntOf, Result.andThen, e]
theorem splice_all (L l : List Value) (h : L.length = l.length) : splice L 0 l = l := by simp [splice, h]
def errStrSize : Value := .iface 86 (.string ⟨#[86, 97, 108, 105, 100, 32, 101, 110, 99, 111, 100, 101, 100, 32, 75, 83, 85, 73, 68, 115, 32, 97, 114, 101, 32, 50, 55, 32, 99, 104, 97, 114, 97, 99, 116, 101, 114, 115]⟩)
set_option maxRecDepth 100000 in
theorem kparse_bad (p : List UInt8) (hp : p.length ≠ 27) (w : World) :
    Calls Try.prog 49 #[str p] w fun e w' => e = .returned (.tuple #[.agg Z20.toArray, errStrSize]) ∧ Below w.heap.size w w' := by
  have hb := Below.refl w.heap.size w
  have hne : ((p.length : Int) != 27) = true := by rw [bne_iff_ne]; omega
  have hs : (⟨p.toArray⟩ : ByteArray).size = p.length := by simp [ByteArray.size]
  unfold str
  generalize (⟨p.toArray⟩ : ByteArray) = s at *
  rw [← hs] at hne hp
  clear hs
  go_enter Try.func49, Try.ntmps49
  go_wp2_with (refine wp_alloc_blk ksArr hb rfl rfl rfl (Nat.le_refl _) ?_)
  intro w1 b1 g1 s1 hb1
  clear s1
  go_wp2_with (go_at_call 53; refine (nil_ok _).mono ?_)
  rintro e w3 ⟨rfl, hb3⟩
  have b3 := b1.kept hb3
  have hb3' := hb1.trans (hb3.mono hb1.size)
  go_wp2_with (refine wp_store_blk ksArr hb3' rfl rfl rfl (cs := Z20) rfl b3 (Nat.le_refl _) rfl rfl (by decide) ?_)
  intro w4 b4 g4 s4 hb4
  go_wp2
  refine ret_cell_tmp ksArr rfl rfl rfl rfl b4 rfl ⟨rfl, hb4⟩
set_option maxRecDepth 100000 in
theorem kparse_ok (x : List UInt8) (hx : x.length = 20) (w : World) :
    Calls Try.prog 49 #[str (writ d62 27 (num x))] w fun e w' => e = .returned (.tuple #[.agg (bvs x).toArray, .nilIface]) ∧ Below w.heap.size w w' := by
  have hb := Below.refl w.heap.size w
  have hN : num x < 4294967296 ^ 5 := by
    have := num_lt x
    rw [hx] at this
    exact this
  have hE : be 20 (num x) = x := by rw [← hx]; exact be_num x
  have HN := Lib.hid hN
  have HE := Lib.hid hE
  have LX := Lib.hid hx
  have LT := Lib.hid (writ_length d62 27 (num x))
  have hs : (⟨(writ d62 27 (num x)).toArray⟩ : ByteArray).size = 27 := by show (writ d62 27 (num x)).toArray.size = 27; simp [writ_length]
  have HS := Lib.hid hs
  clear hN hE hx
  generalize num x = N at *
  unfold str
  go_enter Try.func49, Try.ntmps49
  go_wp2_with (refine wp_alloc_blk ksArr hb rfl rfl rfl (Nat.le_refl _) ?_)
  intro w1 b1 g1 s1 hb1
  clear s1
  have hg1 := Nat.le_refl w.heap.size
  go_wp2_with (refine wp_alloc_blk arr27 hb1 rfl rfl rfl hb1.size ?_)
  intro w2 b2 g2 s2 hb2
  clear s2
  have b1' := b1.grown g2 (by simp)
  have lt1 : w.heap.size < w1.heap.size := b1.lt
  go_wp2_with (refine wp_store_blk arr27 hb2 rfl rfl rfl (cs := Z27) rfl b2 hb1.size rfl rfl (by decide) ?_)
  intro w3 b3 g3 s3 hb3
  clear s3
  have b1'' := b1'.grown g3 (by intro e; have := Option.some.inj e; omega)
  go_wp2_with (refine wp_alloc_blk arr20 hb3 rfl rfl rfl hb3.size ?_)
  intro w4 b4 g4 s4 hb4
  clear s4
  have c1 := b1''.grown g4 (by simp)
  have c2 := b3.grown g4 (by simp)
  have lt2 : w1.heap.size < w3.heap.size := b3.lt
  go_wp2_with (refine wp_store_blk arr20 hb4 rfl rfl rfl (cs := Z20) rfl b4 hb3.size rfl rfl (by decide) ?_)
  intro w5 b5 g5 s5 hb5
  clear s5
  have d1 := c1.grown g5 (by intro e; have := Option.some.inj e; omega)
  have d2 := c2.grown g5 (by intro e; have := Option.some.inj e; omega)
  have hB1 := hb1.size
  have hB3 := hb3.size
  clear b1 b1' b1'' b2 b3 b4 c1 c2 g1 g2 g3 g4 g5 hb1 hb2 hb3 hb4 hg1
  generalize hg0 : w.heap.size = g0 at *
  have HG0 := Lib.hid hg0
  clear hg0
  generalize w1.heap.size = ga at *
  generalize w3.heap.size = gb at *
  have LTX := Lib.hid (writ_length d62 27 N)
  have RDL : Hid ((bvs (writ d62 27 N)).length = 27) := Lib.hid (by rw [bvs_length, writ_length])
  have SPL : Hid (splice Z27 0 (bvs (writ d62 27 N)) = bvs (writ d62 27 N)) := Lib.hid (splice_all Z27 _ (by rw [bvs_length, writ_length]; rfl))
  go_wp2_with fail
  refine region_plan2 (fun w' => Below w5.heap.size w5 w') [(0, 0), (1, 0), (2, 0), (3, 2)] rfl (by kernel_rfl) (by kernel_rfl) rfl (by intro c a d v w h; cases d <;> exact h) (fun _ _ h => h) ?_
  intro OPS w6 hpW hb6
  clear hpW
  simp only [planOps2, strip, List.filterMap_cons, List.filterMap_nil, List.getElem?_cons_succ, List.getElem?_cons_zero, Option.map_some]
  repeat (first | (refine plan_still rfl (still_str_all (s := ⟨(writ d62 27 N).toArray⟩) rfl Try.underlying9 rfl) ?_) | (refine plan_skip rfl ?_) | (refine plan_still (v := ?_) rfl (fun w' hS => ?_) ?_; rotate_left; (focus (go_simp; first | done | with_reducible rfl))); simp only [Act.put, List.setIfInBounds_toArray, List.set_cons_zero, List.set_cons_succ])
  refine plan_last ?_
  have e1 := d1.kept hb6
  have e2 := d2.kept hb6
  have e5 := b5.kept hb6
  have hB6 : g0 ≤ w6.heap.size := by have := e1.lt; omega
  have hw6 := hb5.trans (hb6.mono (by have := d1.lt; omega))
  clear d1 d2 b5 hb5 hb6
  go_wp2_with (refine wp_copy_strall (n := 27) rfl rfl Try.underlying22 (by kernel_rfl) rfl rfl e2 LTX.out (Nat.le_refl _) (by decide) ?_)
  intro w7 e2' g7
  rw [SPL.out] at e2'
  have e1' := e1.grown g7 (by intro e; have := Option.some.inj e; omega)
  have e5' := e5.grown g7 (by intro e; have := Option.some.inj e; omega)
  have hw7 := hw6.grown g7 hB6 (by rintro k ⟨⟩; omega)
  have hB7 : g0 ≤ w7.heap.size := by have := e1'.lt; omega
  clear e1 e2 e5 hw6 g7
  go_wp2
  refine plan_nil ?_
  go_wp2
  refine region_plan2 (fun w' => True) [(0, 0), (1, 0), (2, 1), (3, 0)] rfl (by kernel_rfl) (by kernel_rfl) rfl (by intro c a d v w h; cases d <;> exact h) (fun w' h _ => trivial) ?_
  intro OPS w8 hpW hb8
  clear hpW
  simp only [planOps2, strip, List.filterMap_cons, List.filterMap_nil, List.getElem?_cons_succ, List.getElem?_cons_zero, Option.map_some]
  have f1 := e1'.kept hb8
  have f2 := e2'.kept hb8
  have f5 := e5'.kept hb8
  have hB8 : g0 ≤ w8.heap.size := by have := f1.lt; omega
  have hw8 := hw7.trans (hb8.mono hB7)
  have r2 := f2.rd (by rw [LTX.out]; decide)
  have hcal := dec62_ok gb Z20 _ ga 0 N w8 f5 rfl r2 HN.out
  have HCAL := Lib.hid hcal
  clear hcal r2 e1' e2' e5' hw7
  repeat (first | (refine plan_skip rfl ?_) | (refine plan_still (v := ?_) rfl (fun w' hS => ?_) ?_; rotate_left; (focus (go_simp; first | done | with_reducible rfl))); simp only [Act.put, List.setIfInBounds_toArray, List.set_cons_zero, List.set_cons_succ])
  refine plan_do ?_
  go_wp2_with (go_at_call 70; refine HCAL.out.mono ?_)
  rintro e w9 ⟨rfl, k5, gr9⟩
  rw [HE.out] at k5
  have k1 := f1.grown gr9 (by intro e; have := Option.some.inj e; omega)
  have hw9 := hw8.grown gr9 hB8 (by rintro k ⟨⟩; omega)
  have hB9 : g0 ≤ w9.heap.size := by have := k1.lt; omega
  have r5 := k5.rd (by rw [LX.out]; decide)
  have LX20 := Lib.hid (show (bvs x).length = 20 by rw [bvs_length]; exact LX.out)
  clear f1 f2 f5 hw8 gr9 HCAL
  go_wp2
  first | refine ⟨trivial, ?_⟩ | skip
  repeat (first | (refine plan_skip rfl ?_) | (refine plan_still (v := ?_) rfl (fun w' hS => ?_) ?_; rotate_left; (focus (go_simp; first | done | with_reducible rfl))); simp only [Act.put, List.setIfInBounds_toArray, List.set_cons_zero, List.set_cons_succ])
  refine plan_nil ?_
  go_wp2_with (go_at_call 36; refine (fromBytes_ok _ x _ _ r5 LX.out).mono ?_)
  rintro e w10 ⟨rfl, hb10⟩
  have k10 := k1.kept hb10
  have hw10 := hw9.trans (hb10.mono hB9)
  go_wp2_with (refine wp_store_blk ksArr hw10 rfl rfl rfl rfl k10 (Nat.le_refl _) rfl LX20.out (bvs_one _) ?_)
  intro w11 k11 g11 s11 hw11
  clear s11
  go_wp2
  refine ret_cell_tmp ksArr rfl rfl rfl rfl k11 LX20.out ⟨rfl, ?_⟩
  rw [HG0.out]
  exact hw11
set_option maxRecDepth 100000 in
theorem ksuidRead_ok (x : List UInt8) (hx : x.length = 20) (w : World) :
    Calls Try.prog 33 #[str (writ d62 27 (num x))] w fun e w' => ∃ g, e = .returned (.tuple #[.slice (some ⟨g, 0, none⟩) 20 20, .bool true]) ∧ Blk w' g (bvs x) 59 ∧ Below w.heap.size w w' := by
  have hp := kparse_ok x hx w
  have HP := Lib.hid hp
  have LX := Lib.hid hx
  have LX20 := Lib.hid (show (bvs x).length = 20 by rw [bvs_length, hx])
  clear hp hx
  generalize str (writ d62 27 (num x)) = s at *
  go_enter Try.func33, Try.ntmps33
  go_wp2_with (go_at_call 49; refine HP.out.mono ?_)
  rintro e w2 ⟨rfl, hb2⟩
  go_wp2_with (refine wp_alloc_blk ksArr hb2 rfl rfl rfl hb2.size ?_)
  intro w3 b3 g3 s3 hb3
  clear s3
  go_wp2_with (refine wp_store_blk ksArr hb3 rfl rfl rfl rfl b3 hb2.size rfl LX20.out (bvs_one _) ?_)
  intro w4 b4 g4 s4 hb4
  clear s4
  go_wp2_with (first | (refine wp_load_blk ksArr rfl rfl rfl b4 LX20.out ?_) | (go_at_call 38; refine (bytes_ok x _ LX.out).mono ?_))
  rintro e w5 ⟨rfl, b5, hb5, s5⟩
  have hw5 := hb4.trans (hb5.mono hb4.size)
  clear s5
  go_wp2
  exact ret_tmp2 rfl rfl rfl rfl ⟨_, rfl, b5, hw5⟩
set_option maxRecDepth 100000 in
theorem ksuidRead_bad (p : List UInt8) (hp : p.length ≠ 27) (w : World) :
    Calls Try.prog 33 #[str p] w fun e w' => e = .returned (.tuple #[.slice none 0 0, .bool false]) ∧ Below w.heap.size w w' := by
  have hq := kparse_bad p hp w
  have HP := Lib.hid hq
  clear hq hp
  generalize str p = s at *
  go_enter Try.func33, Try.ntmps33
  go_wp2_with (go_at_call 49; refine HP.out.mono ?_)
  rintro e w2 ⟨rfl, hb2⟩
  go_wp2_with (refine wp_alloc_blk ksArr hb2 rfl rfl rfl hb2.size ?_)
  intro w3 b3 g3 s3 hb3
  clear s3
  go_wp2_with (refine wp_store_blk ksArr hb3 rfl rfl rfl (cs := Z20) rfl b3 hb2.size rfl rfl (by decide) ?_)
  intro w4 b4 g4 s4 hb4
  clear s4
  unfold errStrSize
  go_wp2
  exact ret_tmp2 rfl rfl rfl rfl ⟨rfl, hb4⟩
end Go.Proofs.Ytbacbgicfomkbaa
