/- The text of a KSUID: String, and the thin package's KsuidText. -/
import Derived.Test.YtbacbgicfomkbaaEnc
namespace Go.Proofs.Ytbacbgicfomkbaa
open Go.RowKit

/-- make of a slice of zeros with room. -/
theorem wp_make_room {P : Program} {ops : Array Oper} {rest : List Oper} {o : Oper} {a : Act} {w : World} {Q : Exit → Act → World → Prop} (hgd : o.guard = none) {l c : Operand} {t : TypeId} (hop : o.op = Op.makeSlice t l c)
    {e bytes : Nat} {z : Value} (ht : P.underlying t = some (.slice e)) (info : (P.info? e).map (fun i => (i.zero, i.size, i.bytes)) = some (some z, 1, bytes)) (hz : z.cells = #[z]) {m n : Nat} (hl : a.eval l = .int .i64 (m : Int)) (hc : a.eval c = .int .i64 (n : Int)) (hmn : m ≤ n) (hn : bytes * n ≤ 281474976710656) (hm : n ≤ 9223372036854775807)
    (h : ∀ w', Blk w' w.heap.size (List.replicate n z) e → w.grownBy w' none → w'.heap.size = w.heap.size + 1 → wpList P ops Q rest (a.put o.dst (.slice (some ⟨w.heap.size, 0, none⟩) m n)) w') : wpList P ops Q (o :: rest) a w := by
  obtain ⟨i, hi, hz0, hz1, hz2⟩ := info_parts info
  refine wpList_plain hgd fun K hK => ?_
  have hrun := run_make (P := P) w t e i z ht hi hz0 .i64 .i64 m n (by omega) (by omega) (by rw [hz2]; omega) (by omega)
  have hcells : madeCells z.cells ((n : Int).toNat * i.size) = (List.replicate n z).toArray := by
    rw [hz1, hz]
    apply Array.ext
    · simp [madeCells]
    · intro k h1 h2
      simp [madeCells, Nat.mod_one]
  rw [hcells] at hrun
  unfold Oper.wp
  simp [execOp, hop, hl, hc, hrun, Result.andThen]
  exact hK _ _ (by simpa using h _ (Blk.new w _ e) (World.grownBy_alloc w _ none) (by simp))

theorem ret_tmp2 {P : Program} {fn : Func} {w : World} {R : Ending → World → Prop} {a : Act} {t0 t1 : Tmp} (h : fn.results = #[.tmp t0, .tmp t1]) (hd : a.defers = []) {v0 v1 : Value}
    (h0 : a.tmps.getD t0 undef = v0) (h1 : a.tmps.getD t1 undef = v1)
    (hR : R (.returned (.tuple #[v0, v1])) w) : bodyPost P fn R .ret a w := by
  refine bodyPost_ret (v := .tuple #[v0, v1]) ?_ hd hR
  subst h0 h1
  simp [results, h]
theorem ret_tmp3 {P : Program} {fn : Func} {w : World} {R : Ending → World → Prop} {a : Act} {t0 t1 t2 : Tmp} (h : fn.results = #[.tmp t0, .tmp t1, .tmp t2]) (hd : a.defers = []) {v0 v1 v2 : Value}
    (h0 : a.tmps.getD t0 undef = v0) (h1 : a.tmps.getD t1 undef = v1) (h2 : a.tmps.getD t2 undef = v2)
    (hR : R (.returned (.tuple #[v0, v1, v2])) w) : bodyPost P fn R .ret a w := by
  refine bodyPost_ret (v := .tuple #[v0, v1, v2]) ?_ hd hR
  subst h0 h1 h2
  simp [results, h]
/-- What FromBytes says of bytes of another length. -/
def errSize : Value := .iface 86 (.string ⟨#[86, 97, 108, 105, 100, 32, 75, 83, 85, 73, 68, 115, 32, 97, 114, 101, 32, 50, 48, 32, 98, 121, 116, 101, 115]⟩)
set_option maxRecDepth 100000 in
theorem fromBytes_bad (a1 : Option Addr) (n c1 : Nat) (w : World) (hne : ((n : Int) != 20) = true) :
    Calls Try.prog 36 #[.slice a1 n c1] w fun e w' => e = .returned (.tuple #[.agg Z20.toArray, errSize]) ∧ Below w.heap.size w w' := by
  have hb := Below.refl w.heap.size w
  go_enter Try.func36, Try.ntmps36
  go_wp2_with (refine wp_alloc_blk ksArr hb rfl rfl rfl (Nat.le_refl _) ?_)
  intro w1 b1 g1 s1 hb1
  clear s1
  go_wp2_with (refine wp_alloc_blk ksArr hb1 rfl rfl rfl hb1.size ?_)
  intro w2 b2 g2 s2 hb2
  clear s2
  have b1' := b1.grown g2 (by simp)
  go_wp2_with (go_at_call 53; refine (nil_ok _).mono ?_)
  rintro e w3 ⟨rfl, hb3⟩
  have b3 := b1'.kept hb3
  have hb3' := hb2.trans (hb3.mono hb2.size)
  go_wp2_with (refine wp_store_blk ksArr hb3' rfl rfl rfl (cs := Z20) rfl b3 (Nat.le_refl _) rfl rfl (by decide) ?_)
  intro w4 b4 g4 s4 hb4
  go_wp2
  refine ret_cell_tmp ksArr rfl rfl rfl rfl b4 rfl ⟨rfl, hb4⟩
theorem reserve_ok (gd cap : Nat) (w : World) (hcap : cap ≤ 9223372036854775807) (h27 : 27 ≤ cap) :
    Calls Try.prog 85 #[.slice (some ⟨gd, 0, none⟩) 0 cap, .int .i64 27] w fun e w' => e = .returned (.slice (some ⟨gd, 0, none⟩) 0 cap) ∧ w = w' := by
  go_enter Try.func85, Try.ntmps85
  go_wp2
  go_ret
  exact ⟨rfl, rfl⟩

set_option maxRecDepth 100000 in
theorem fastAppend_ok (gd : Nat) (cs : List Value) (td : TypeId) (a1 : Option Addr) (x : List UInt8) (c1 : Nat) (w : World) (hd : Blk w gd cs td) (hl : cs.length = 27) (h1 : Rd w a1 x) (hx : x.length = 20) (hc1 : 20 ≤ c1) :
    Calls Try.prog 74 #[.slice (some ⟨gd, 0, none⟩) 0 27, .slice a1 20 c1] w fun e w' => e = .returned (.slice (some ⟨gd, 0, none⟩) 27 27) ∧ Blk w' gd (bvs (writ d62 27 (num x))) td ∧ w.grownBy w' (some gd) := by
  have L := Lib.hid hx
  have LC := Lib.hid hl
  have hs : splice cs 0 (bvs (writ d62 27 (num x))) = bvs (writ d62 27 (num x)) := by
    rw [splice, List.take_zero, List.nil_append, Nat.zero_add, bvs_length, writ_length, List.drop_of_length_le (by omega), List.append_nil]
  have HS := Lib.hid hs
  clear hx hl hs
  go_enter Try.func74, Try.ntmps74
  go_wp2_with (first | (go_at_call 85; refine (reserve_ok gd 27 _ (by decide) (by decide)).mono ?_; rintro e w2 ⟨rfl, rfl⟩) | (go_at_call 86; refine (enc62_ok gd 0 27 cs td a1 x c1 _ hd (by rw [LC.out]; decide) h1 L.out hc1 (by decide)).mono ?_))
  rintro e w3 ⟨rfl, b3, g3⟩
  rw [HS.out] at b3
  go_wp2
  go_ret
  exact ⟨rfl, b3, g3⟩

set_option maxRecDepth 100000 in
theorem kappend_ok (gd : Nat) (cs : List Value) (td : TypeId) (x : List UInt8) (w : World) (hd : Blk w gd cs td) (hl : cs.length = 27) (hx : x.length = 20) :
    Calls Try.prog 58 #[.agg (bvs x).toArray, .slice (some ⟨gd, 0, none⟩) 0 27] w fun e w' => e = .returned (.slice (some ⟨gd, 0, none⟩) 27 27) ∧ Blk w' gd (bvs (writ d62 27 (num x))) td ∧ w.grownBy w' (some gd) := by
  have hb := Below.refl w.heap.size w
  have L := Lib.hid hx
  have LC := Lib.hid hl
  clear hx hl
  go_enter Try.func58, Try.ntmps58
  go_wp2_with (refine wp_box_blk ksArr hb rfl rfl rfl rfl (Nat.le_refl _) ?_)
  intro w1 b1 g1 s1 hb1
  have d1 := hd.kept hb1
  have r1 := b1.rd (by rw [L.out]; decide)
  go_wp2_with (go_at_call 74; refine (fastAppend_ok gd cs td _ x _ _ d1 LC.out r1 L.out (by decide)).mono ?_)
  rintro e w3 ⟨rfl, b3, g3⟩
  go_wp2
  go_ret
  exact ⟨rfl, b3, grown_trans (grown_none g1 _) g3⟩

set_option maxRecDepth 100000 in
theorem kstring_ok (x : List UInt8) (w : World) (hx : x.length = 20) :
    Calls Try.prog 42 #[.agg (bvs x).toArray] w fun e w' => e = .returned (str (writ d62 27 (num x))) ∧ Below w.heap.size w w' := by
  have hb := Below.refl w.heap.size w
  have L := Lib.hid hx
  have L20 := Lib.hid (show (bvs x).length = 20 by rw [bvs_length, hx])
  clear hx
  go_enter Try.func42, Try.ntmps42
  go_wp2_with (refine wp_box_blk ksArr hb rfl rfl rfl rfl (Nat.le_refl _) ?_)
  intro w1 b1 g1 s1 hb1
  clear s1
  go_wp2_with fail
  refine region_plan (fun w' => Below w1.heap.size w1 w') [(0, 0), (1, 1), (2, 2), (3, 2), (4, 2)] rfl (by kernel_rfl) (by kernel_rfl) rfl (by intro c a d v w h; cases d <;> exact h) (fun _ _ h => h) ?_
  intro w2 hpW hb2
  clear hpW
  simp only [planOps, List.filterMap_cons, List.filterMap_nil, List.getElem?_cons_succ, List.getElem?_cons_zero, Option.map_some]
  repeat (first | (refine plan_still rfl (still_blk ksArr rfl rfl (fun w' hS => b1.kept hS) L20.out) ?_) | (refine plan_skip rfl ?_) | (refine plan_still (v := ?_) rfl (fun w' hS => ?_) ?_; rotate_left; (focus (go_simp; first | done | with_reducible rfl))); simp only [Act.put, List.setIfInBounds_toArray, List.set_cons_zero, List.set_cons_succ])
  refine plan_do ?_
  go_wp2_with (at_make; refine wp_make_room rfl rfl Try.underlying22 info5 rfl (m := 0) (n := 27) rfl rfl (by decide) (by decide) (by decide) ?_)
  intro w3 b3 g3 s3
  have hb3 := hb2.trans ((below_grown g3).mono hb2.size)
  have hbw := hb1.trans (hb3.mono hb1.size)
  have hle : w.heap.size ≤ w2.heap.size := Nat.le_trans hb1.size hb2.size
  clear s3
  generalize w2.heap.size = g at *
  go_wp2
  refine ⟨hb3, plan_last ?_⟩
  go_wp2_with (go_at_call 58; refine (kappend_ok g _ _ x _ b3 rfl L.out).mono ?_)
  rintro e w4 ⟨rfl, b4, g4⟩
  have hb4 := hbw.grown g4 hbw.size (by rintro j ⟨⟩; omega)
  have r4 := b4.rd (by rw [writ_length]; decide)
  go_wp2
  refine plan_last ?_
  go_wp2_with (refine wp_to_string rfl rfl Try.underlying22 Try.underlying5 Try.underlying9 rfl r4 (writ_length _ _ _) ?_)
  refine plan_last ?_
  go_wp2
  refine plan_nil ?_
  go_wp2
  go_ret
  exact ⟨rfl, hb4⟩

set_option maxRecDepth 100000 in
theorem ksuidText_ok (a1 : Option Addr) (x : List UInt8) (c1 : Nat) (w : World) (h1 : Rd w a1 x) (hx : x.length = 20) :
    Calls Try.prog 22 #[.slice a1 20 c1] w fun e w' => e = .returned (.tuple #[str (writ d62 27 (num x)), .bool true]) ∧ Below w.heap.size w w' := by
  have L := Lib.hid hx
  have L20 := Lib.hid (show (bvs x).length = 20 by rw [bvs_length, hx])
  clear hx
  go_enter Try.func22, Try.ntmps22
  go_wp2_with (go_at_call 36; refine (fromBytes_ok a1 x c1 _ h1 L.out).mono ?_)
  rintro e w2 ⟨rfl, hb2⟩
  go_wp2_with (refine wp_alloc_blk ksArr hb2 rfl rfl rfl hb2.size ?_)
  intro w3 b3 g3 s3 hb3
  clear s3
  go_wp2_with (refine wp_store_blk ksArr hb3 rfl rfl rfl rfl b3 hb2.size rfl L20.out (bvs_one _) ?_)
  intro w4 b4 g4 s4 hb4
  clear s4
  go_wp2_with (first | (refine wp_load_blk ksArr rfl rfl rfl b4 L20.out ?_) | (go_at_call 42; refine (kstring_ok x _ L.out).mono ?_))
  rintro e w5 ⟨rfl, hb5⟩
  go_wp2
  exact ret_tmp2 rfl rfl rfl rfl ⟨rfl, hb4.trans (hb5.mono hb4.size)⟩

set_option maxRecDepth 100000 in
theorem ksuidText_bad (a1 : Option Addr) (n : Nat) (c1 : Nat) (w : World) (hn : n ≠ 20) :
    Calls Try.prog 22 #[.slice a1 n c1] w fun e w' => e = .returned (.tuple #[str [], .bool false]) ∧ Below w.heap.size w w' := by
  have hne : ((n : Int) != 20) = true := by rw [bne_iff_ne]; omega
  clear hn
  go_enter Try.func22, Try.ntmps22
  go_wp2_with (go_at_call 36; refine (fromBytes_bad a1 n c1 _ hne).mono ?_)
  rintro e w2 ⟨rfl, hb2⟩
  go_wp2_with (refine wp_alloc_blk ksArr hb2 rfl rfl rfl hb2.size ?_)
  intro w3 b3 g3 s3 hb3
  clear s3
  go_wp2_with (refine wp_store_blk ksArr hb3 rfl rfl rfl (cs := Z20) rfl b3 hb2.size rfl rfl (by decide) ?_)
  intro w4 b4 g4 s4 hb4
  clear s4
  unfold errSize
  go_wp2
  exact ret_tmp2 rfl rfl rfl rfl ⟨rfl, hb4⟩

theorem text_zero : str (writ d62 27 (num (List.replicate 20 0))) = .string ⟨#[48, 48, 48, 48, 48, 48, 48, 48, 48, 48, 48, 48, 48, 48, 48, 48, 48, 48, 48, 48, 48, 48, 48, 48, 48, 48, 48]⟩ := by
  have h : writ d62 27 (num (List.replicate 20 0)) = List.replicate 27 48 := by decide +kernel
  rw [str, h]
  rfl
set_option maxRecDepth 100000 in
theorem known_ok (w : World) : Calls Try.prog 23 #[] w fun e w' => e = .returned (.bool true) ∧ Below w.heap.size w w' := by
  have hb := Below.refl w.heap.size w
  go_enter Try.func23, Try.ntmps23
  go_wp2_with (at_make; refine wp_make_zero rfl rfl Try.underlying22 info5 rfl (n := 20) rfl rfl (by decide) (by decide) ?_)
  intro w1 b1 g1 s1
  clear s1
  have hb1 := below_grown g1
  have r1 := (show Blk w1 w.heap.size (bvs (List.replicate 20 0)) 5 from b1).rd (by decide)
  go_wp2_with (go_at_call 22; refine (ksuidText_ok _ _ _ _ r1 rfl).mono ?_)
  rintro e w2 ⟨rfl, hb2⟩
  rw [text_zero]
  have hbw := hb1.trans (hb2.mono hb1.size)
  go_wp2
  go_ret
  exact ⟨rfl, hbw⟩
end Go.Proofs.Ytbacbgicfomkbaa
