/- The law FnKsuidMake returns true, and turns nothing that was there. -/
import Derived.Test.YtbacbgicfomkbaaTextK
namespace Go.Proofs.Ytbacbgicfomkbaa
open Go.RowKit

theorem num_be : ∀ (m n : Nat), num (be m n) = n % 256 ^ m
  | 0, n => by simp [be, num, Nat.mod_one]
  | m + 1, n => by
    have h1 : num [UInt8.ofNat n] = n % 256 := by simp [num]
    rw [be, num_append, num_be m, h1, List.length_singleton, Nat.pow_one, Nat.pow_succ, Nat.mul_comm (256 ^ m), Nat.mod_mul]
    omega

/-- copy of a whole byte slice into a part of a block. -/
theorem wp_copy_mid {P : Program} {ops : Array Oper} {rest : List Oper} {o : Oper} {a : Act} {w : World} {Q : Exit → Act → World → Prop} {B0 : Nat} {w0 : World} (hb : Below B0 w0 w) (hgd : o.guard = none) {d s : Operand} {dT sT : TypeId}
    (ho : o.op = .call { callee := .builtin .copy, args := #[d, s], argTypes := #[dT, sT] }) {elem : TypeId} (hu : P.underlying dT = some (.slice elem)) (hsz : (P.info? elem).map (·.size) = some 1)
    {g off : Nat} {sp : Option Addr} {n dCap sCap : Nat} (hd : a.eval d = .slice (some ⟨g, off, none⟩) n dCap) (hs : a.eval s = .slice sp n sCap)
    {cur : List Value} {t : TypeId} (hg : Blk w g cur t) (bs : List UInt8) (hr : Rd w sp bs) (hB : B0 ≤ g) (hn : off + n ≤ cur.length) (hbs : bs.length = n) (h0 : 0 < n)
    (h : ∀ w', Blk w' g (splice cur off (bvs bs)) t → w.grownBy w' (some g) → Below B0 w0 w' → wpList P ops Q rest (a.put o.dst (.int .i64 n)) w') : wpList P ops Q (o :: rest) a w := by
  obtain ⟨ad, rfl, hsrc⟩ := hr.src (by omega)
  refine wpList_copy_own hgd d s dT sT ho elem hu hsz g off _ _ ad _ _ hd hs cur.toArray t hg (bvs bs) (by simp [bvs_length, hbs]) hsrc (by simpa [bvs_length, hbs] using hn) (bvs_one bs) ?_
  have e : (cur.toArray.toList.take off ++ (bvs bs ++ cur.toArray.toList.drop (off + (bvs bs).length))).toArray = (splice cur off (bvs bs)).toArray := by
    simp [splice]
  rw [e]
  have e2 : goInt (bvs bs).length = .int .i64 n := by simp [goInt, bvs_length, hbs]
  rw [e2]
  have g' : w.grownBy (w.setRow g (splice cur off (bvs bs)).toArray) (some g) := ⟨rfl, rfl, rfl, by simp, fun k _ hk => setRow_other w g k _ (by simpa using hk)⟩
  exact h _ (setRow_heap w g _ _ t _ hg) g' (below_put hb hB _)

def errPay : Value := .iface 86 (.string ⟨#[86, 97, 108, 105, 100, 32, 75, 83, 85, 73, 68, 32, 112, 97, 121, 108, 111, 97, 100, 115, 32, 97, 114, 101, 32, 49, 54, 32, 98, 121, 116, 101, 115]⟩)
theorem splice_parts (v : Nat) (x : List UInt8) (hx : x.length = 16) : splice (splice Z20 0 (bvs (be 4 v))) 4 (bvs x) = bvs (be 4 v ++ x) := by
  have h1 : splice Z20 0 (bvs (be 4 v)) = bvs (be 4 v) ++ List.replicate 16 (.int .u8 0) := by
    rw [splice, List.take_zero, List.nil_append, Nat.zero_add, bvs_length, be_length]
    rfl
  have l4 : (bvs (be 4 v)).length = 4 := by rw [bvs_length, be_length]
  rw [h1, splice, List.take_left' l4, List.drop_of_length_le (by rw [List.length_append, l4, List.length_replicate, bvs_length, hx]; decide), List.append_nil, bvs_append]

set_option maxRecDepth 100000 in
theorem fromParts_ok (v : Nat) (a1 : Option Addr) (x : List UInt8) (c1 : Nat) (w : World) (h1 : Rd w a1 x) (hx : x.length = 16) :
    Calls Try.prog 50 #[.int .u32 v, .slice a1 16 c1] w fun e w' => e = .returned (.tuple #[.agg (bvs (be 4 v ++ x)).toArray, .nilIface]) ∧ Below w.heap.size w w' := by
  have hb := Below.refl w.heap.size w
  have HX := Lib.hid hx
  have HP := Lib.hid (splice_parts v x hx)
  have L20 := Lib.hid (show (bvs (be 4 v ++ x)).length = 20 by rw [bvs_length, List.length_append, be_length, hx])
  have LS := Lib.hid (show (splice Z20 0 (bvs (be 4 v))).length = 20 by rw [length_splice _ _ _ (by rw [bvs_length, be_length]; decide)]; rfl)
  clear hx
  go_enter Try.func50, Try.ntmps50
  go_wp2_with (refine wp_alloc_blk ksArr hb rfl rfl rfl (Nat.le_refl _) ?_)
  intro w1 b1 g1 s1 hb1
  clear s1
  have l1 := b1.lt
  go_wp2_with (refine wp_alloc_blk ksArr hb1 rfl rfl rfl hb1.size ?_)
  intro w2 b2 g2 s2 hb2
  clear s2
  have b1' := b1.grown g2 (by simp)
  have hle : w.heap.size ≤ w1.heap.size := hb1.size
  generalize w1.heap.size = q at *
  go_wp2_with (go_at_call 66; refine (ks_put32 q 0 4 20 v Z20 _ _ b2 (by decide) (by decide) (by decide)).mono ?_)
  rintro e w3 ⟨rfl, b3, g3, -⟩
  have hb3 := hb2.grown g3 hb2.size (by rintro j ⟨⟩; exact hle)
  have b1'' := b1'.grown g3 (by intro e; have := Option.some.inj e; omega)
  go_wp2_with (refine wp_copy_mid (off := 4) (n := 16) hb3 rfl rfl Try.underlying22 (by kernel_rfl) rfl rfl b3 x (h1.kept hb3) hle (by rw [LS.out]; decide) HX.out (by decide) ?_)
  intro w4 b4 g4 hb4
  rw [HP.out] at b4
  have b14 := b1''.grown g4 (by intro e; have := Option.some.inj e; omega)
  go_wp2_with (first | (refine wp_load_blk ksArr rfl rfl rfl b4 L20.out ?_) | refine wp_store_blk ksArr hb4 rfl rfl rfl rfl b14 (Nat.le_refl _) rfl L20.out (bvs_one _) ?_)
  intro w5 b5 g5 s5 hb5
  go_wp2
  refine ret_cell_tmp ksArr rfl rfl rfl rfl b5 L20.out ⟨rfl, hb5⟩

set_option maxRecDepth 100000 in
theorem fromParts_bad (v : Nat) (a1 : Option Addr) (n c1 : Nat) (w : World) (hne : ((n : Int) != 16) = true) :
    Calls Try.prog 50 #[.int .u32 v, .slice a1 n c1] w fun e w' => e = .returned (.tuple #[.agg Z20.toArray, errPay]) ∧ Below w.heap.size w w' := by
  have hb := Below.refl w.heap.size w
  go_enter Try.func50, Try.ntmps50
  go_wp2_with (refine wp_alloc_blk ksArr hb rfl rfl rfl (Nat.le_refl _) ?_)
  intro w1 b1 g1 s1 hb1
  clear s1
  go_wp2_with (go_at_call 53; refine (nil_ok _).mono ?_)
  rintro e w3 ⟨rfl, hb3⟩
  have b3 := b1.kept hb3
  have hb3' := hb1.trans (hb3.mono hb1.size)
  go_wp2_with (refine wp_store_blk ksArr hb3' rfl rfl rfl (cs := Z20) rfl b3 (Nat.le_refl _) rfl rfl (by decide) ?_)
  intro w4 b4 g4 s4 hb4
  go_wp2
  refine ret_cell_tmp ksArr rfl rfl rfl rfl b4 rfl ⟨rfl, hb4⟩

set_option maxRecDepth 100000 in
theorem timestamp_ok (x : List UInt8) (w : World) (hx : x.length = 20) :
    Calls Try.prog 51 #[.agg (bvs x).toArray] w fun e w' => e = .returned (.int .u32 (num (x.take 4))) ∧ Below w.heap.size w w' := by
  have hb := Below.refl w.heap.size w
  have L := Lib.hid hx
  have l4 : (x.take 4).length = 4 := by rw [List.length_take, hx]; rfl
  have L4 := Lib.hid l4
  clear hx l4
  go_enter Try.func51, Try.ntmps51
  go_wp2_with (refine wp_box_blk ksArr hb rfl rfl rfl rfl (Nat.le_refl _) ?_)
  intro w1 b1 g1 s1 hb1
  clear s1
  have r1 := (b1.rd (by rw [L.out]; decide)).take 4
  have hg := ks_get32 _ 20 (x.take 4) w1 r1 (by rw [L4.out]; decide)
  rw [L4.out, List.take_take] at hg
  go_wp2_with (go_at_call 71; refine hg.mono ?_)
  rintro e w2 ⟨rfl, rfl⟩
  go_wp2
  go_ret
  exact ⟨rfl, hb1⟩
set_option maxRecDepth 100000 in
theorem payload_ok (x : List UInt8) (w : World) :
    Calls Try.prog 52 #[.agg (bvs x).toArray] w fun e w' => e = .returned (.slice (some ⟨w.heap.size, 4, none⟩) 16 16) ∧ Blk w' w.heap.size (bvs x) 59 ∧ Below w.heap.size w w' := by
  have hb := Below.refl w.heap.size w
  go_enter Try.func52, Try.ntmps52
  go_wp2_with (refine wp_box_blk ksArr hb rfl rfl rfl rfl (Nat.le_refl _) ?_)
  intro w1 b1 g1 s1 hb1
  go_wp2
  go_ret
  exact ⟨rfl, b1, hb1⟩

set_option maxRecDepth 100000 in
theorem ksuidMake_ok (v : Nat) (a1 : Option Addr) (x : List UInt8) (c1 : Nat) (w : World) (h1 : Rd w a1 x) (hx : x.length = 16) :
    Calls Try.prog 34 #[.int .u32 v, .slice a1 16 c1] w fun e w' => ∃ g, e = .returned (.tuple #[.slice (some ⟨g, 0, none⟩) 20 20, .bool true]) ∧ Blk w' g (bvs (be 4 v ++ x)) 59 ∧ Below w.heap.size w w' := by
  have L := Lib.hid hx
  have L20 := Lib.hid (show (bvs (be 4 v ++ x)).length = 20 by rw [bvs_length, List.length_append, be_length, hx])
  clear hx
  go_enter Try.func34, Try.ntmps34
  go_wp2_with (go_at_call 50; refine (fromParts_ok v a1 x c1 _ h1 L.out).mono ?_)
  rintro e w2 ⟨rfl, hb2⟩
  go_wp2_with (refine wp_alloc_blk ksArr hb2 rfl rfl rfl hb2.size ?_)
  intro w3 b3 g3 s3 hb3
  clear s3
  go_wp2_with (refine wp_store_blk ksArr hb3 rfl rfl rfl rfl b3 hb2.size rfl L20.out (bvs_one _) ?_)
  intro w4 b4 g4 s4 hb4
  clear s4
  go_wp2_with (first | (refine wp_load_blk ksArr rfl rfl rfl b4 L20.out ?_) | (go_at_call 38; refine (bytes_ok _ _ (by have := L20.out; rwa [bvs_length] at this)).mono ?_))
  rintro e w5 ⟨rfl, b5, hb5, -⟩
  go_wp2
  exact ret_tmp2 rfl rfl rfl rfl ⟨_, rfl, b5, hb4.trans (hb5.mono hb4.size)⟩
set_option maxRecDepth 100000 in
theorem ksuidMake_bad (v : Nat) (a1 : Option Addr) (n c1 : Nat) (w : World) (hne : ((n : Int) != 16) = true) :
    Calls Try.prog 34 #[.int .u32 v, .slice a1 n c1] w fun e w' => e = .returned (.tuple #[.slice none 0 0, .bool false]) ∧ Below w.heap.size w w' := by
  go_enter Try.func34, Try.ntmps34
  go_wp2_with (go_at_call 50; refine (fromParts_bad v a1 n c1 _ hne).mono ?_)
  rintro e w2 ⟨rfl, hb2⟩
  go_wp2_with (refine wp_alloc_blk ksArr hb2 rfl rfl rfl hb2.size ?_)
  intro w3 b3 g3 s3 hb3
  clear s3
  go_wp2_with (refine wp_store_blk ksArr hb3 rfl rfl rfl (cs := Z20) rfl b3 hb2.size rfl rfl (by decide) ?_)
  intro w4 b4 g4 s4 hb4
  clear s4
  unfold errPay
  go_wp2
  exact ret_tmp2 rfl rfl rfl rfl ⟨rfl, hb4⟩

set_option maxRecDepth 100000 in
theorem ksuidParts_ok (a1 : Option Addr) (x : List UInt8) (c1 : Nat) (w : World) (h1 : Rd w a1 x) (hx : x.length = 20) :
    Calls Try.prog 35 #[.slice a1 20 c1] w fun e w' => ∃ g, e = .returned (.tuple #[.int .u32 (num (x.take 4)), .slice (some ⟨g, 4, none⟩) 16 16, .bool true]) ∧ Blk w' g (bvs x) 59 ∧ Below w.heap.size w w' := by
  have L := Lib.hid hx
  have L20 := Lib.hid (show (bvs x).length = 20 by rw [bvs_length, hx])
  clear hx
  go_enter Try.func35, Try.ntmps35
  go_wp2_with (go_at_call 36; refine (fromBytes_ok a1 x c1 _ h1 L.out).mono ?_)
  rintro e w2 ⟨rfl, hb2⟩
  go_wp2_with (refine wp_alloc_blk ksArr hb2 rfl rfl rfl hb2.size ?_)
  intro w3 b3 g3 s3 hb3
  clear s3
  go_wp2_with (refine wp_store_blk ksArr hb3 rfl rfl rfl rfl b3 hb2.size rfl L20.out (bvs_one _) ?_)
  intro w4 b4 g4 s4 hb4
  clear s4
  go_wp2_with fail
  refine region_plan (fun w' => Below w4.heap.size w4 w') [(0, 0), (2, 0), (1, 1), (3, 1), (4, 0), (5, 0), (6, 0)] rfl (by kernel_rfl) (by kernel_rfl) rfl (by intro c a d v w h; cases d <;> exact h) (fun _ _ h => h) ?_
  intro w5 hpW hb5
  clear hpW
  simp only [planOps, List.filterMap_cons, List.filterMap_nil, List.getElem?_cons_succ, List.getElem?_cons_zero, Option.map_some]
  repeat (first | (refine plan_still rfl (still_blk ksArr rfl rfl (fun w' hS => b4.kept hS) L20.out) ?_) | (refine plan_skip rfl ?_) | (refine plan_still (v := ?_) rfl (fun w' hS => ?_) ?_; rotate_left; (focus (go_simp; first | done | with_reducible rfl))); simp only [Act.put, List.setIfInBounds_toArray, List.set_cons_zero, List.set_cons_succ])
  refine plan_do ?_
  go_wp2_with (go_at_call 51; refine (timestamp_ok x _ L.out).mono ?_)
  rintro e w6 ⟨rfl, hb6⟩
  have hb46 := hb5.trans (hb6.mono hb5.size)
  go_wp2
  refine ⟨hb46, ?_⟩
  repeat (first | (refine plan_still rfl (still_blk ksArr rfl rfl (fun w' hS => b4.kept hS) L20.out) ?_) | (refine plan_skip rfl ?_) | (refine plan_still (v := ?_) rfl (fun w' hS => ?_) ?_; rotate_left; (focus (go_simp; first | done | with_reducible rfl))); simp only [Act.put, List.setIfInBounds_toArray, List.set_cons_zero, List.set_cons_succ])
  refine plan_do ?_
  go_wp2_with (go_at_call 52; refine (payload_ok x _).mono ?_)
  rintro e w7 ⟨rfl, b7, hb7⟩
  have hb47 := hb46.trans (hb7.mono hb46.size)
  go_wp2
  refine ⟨hb47, ?_⟩
  repeat (first | (refine plan_skip rfl ?_) | (refine plan_still (v := ?_) rfl (fun w' hS => ?_) ?_; rotate_left; (focus (go_simp; first | done | with_reducible rfl))); simp only [Act.put, List.setIfInBounds_toArray, List.set_cons_zero, List.set_cons_succ])
  refine plan_nil ?_
  go_wp2
  exact ret_tmp3 rfl rfl rfl rfl rfl ⟨_, rfl, b7, hb4.trans (hb47.mono hb4.size)⟩
theorem below_drewN {B : Nat} {w w' : World} (h : Below B w w') (n : Nat) : Below B w (w'.drewN n) := ⟨h.os, h.tape, h.output, h.size, h.block⟩
set_option maxRecDepth 100000 in
theorem ksuidMake_main (v : Nat) (a1 : Option Addr) (x : List UInt8) (c1 : Nat) (w : World) (h1 : Rd w a1 x) (hx : x.length = 16) (hv : v < 4294967296) :
    Calls Try.prog 12 #[.int .u32 v, .slice a1 16 c1] w fun e w' => e = .returned (.bool true) ∧ Below w.heap.size w w' := by
  have L := Lib.hid hx
  have L20 := Lib.hid (show (be 4 v ++ x).length = 20 by rw [List.length_append, be_length, hx])
  have hts : num ((be 4 v ++ x).take 4) = v := by
    rw [List.take_left' (be_length 4 v), num_be, Nat.mod_eq_of_lt hv]
  have HT := Lib.hid hts
  have HV := Lib.hid (show v < 18446744073709551616 by omega)
  have hdrop : (be 4 v ++ x).drop 4 = x := List.drop_left' (be_length 4 v)
  have HD := Lib.hid hdrop
  clear hx hts hdrop
  go_enter Try.func12, Try.ntmps12
  go_wp2_with (go_at_call 34; refine (ksuidMake_ok v a1 x c1 _ h1 L.out).mono ?_; rintro e w2 ⟨g, rfl, b2, hb2⟩)
  have r2 := b2.rd (by rw [L20.out]; decide)
  go_wp2_with (go_at_call 35; refine (ksuidParts_ok _ _ 20 _ r2 L20.out).mono ?_; rintro e w3 ⟨g3, rfl, b3, hb3⟩; rw [HT.out])
  have hb23 := hb2.trans (hb3.mono hb2.size)
  have r4 : Rd w3 (some ⟨g3, 4, none⟩) x := by
    have := (b3.rd (by rw [L20.out]; decide)).part 4 16 (by rw [L20.out]; decide) (by decide)
    rw [Option.map_some, Addr.add_mid, HD.out, List.take_of_length_le (by rw [L.out]; exact Nat.le_refl _)] at this
    exact this
  refine (specBytes_ok v 4 _ (by decide) HV.out).mono ?_
  rintro e w5 ⟨rfl, b5, hb5⟩
  have rb := b5.rd (by rw [be_length]; decide)
  have hb25 := hb23.trans (hb5.mono hb23.size)
  go_wp2_with (go_at_call 14; refine (join_at (n2 := 16) _ _ rb (h1.kept hb25) (be_length 4 v) L.out (by decide)).mono ?_; rintro e w6 ⟨ja, jc, rfl, rj, -, hb6⟩)
  have hb26 := hb25.trans (hb6.mono hb25.size)
  have hb36 := hb5.trans (hb6.mono hb5.size)
  have r26 := ((r2.kept hb3).kept hb36)
  go_wp2_with (go_at_call 15; (with_reducible refine (same_eq r26 rj L20.out L20.out).mono ?_); rintro e w7 ⟨rfl, n7, rfl⟩)
  have r47 := (r4.kept hb36).drew n7
  have r17 := (h1.kept hb26).drew n7
  go_wp2_with (go_at_call 15; (with_reducible refine (same_eq r47 r17 L.out L.out).mono ?_); rintro e w8 ⟨rfl, n8, rfl⟩)
  go_wp2
  go_ret
  exact ⟨rfl, below_drewN hb26 _⟩

set_option maxRecDepth 100000 in
theorem ksuidMake_walk (a0 : Int) (a1 : Option Addr) (x1 : List UInt8) (c1 : Nat) (w : World) (w0 : (Lit.int .u32 a0).wf = true) (h1 : Rd w a1 x1) (_ : x1.length ≤ c1) (_ : c1 ≤ 9223372036854775807) :
    Calls Try.prog 12 #[.int .u32 a0, .slice a1 x1.length c1] w fun e w' => e = .returned (.bool true) ∧ Below w.heap.size w w' := by
  have hb := Below.refl w.heap.size w
  have hl := h1.1
  obtain ⟨v, rfl, hv⟩ : ∃ v : Nat, a0 = v ∧ v < 4294967296 := ⟨a0.toNat, by simp [Lit.wf, IntKind.min, IntKind.max, IntKind.signed, IntKind.bits] at w0; omega, by simp [Lit.wf, IntKind.min, IntKind.max, IntKind.signed, IntKind.bits] at w0; omega⟩
  clear w0
  by_cases hlen : x1.length = 16
  · rw [hlen]
    exact ksuidMake_main v a1 x1 c1 w h1 hlen hv
  · have hne : ((x1.length : Int) != 16) = true := by rw [bne_iff_ne]; omega
    clear hv
    by_cases hbig : 2147483647 < x1.length
    · go_enter Try.func12, Try.ntmps12
      go_wp2
      go_ret
      exact ⟨rfl, hb⟩
    · go_enter Try.func12, Try.ntmps12
      go_wp2_with (go_at_call 34; refine (ksuidMake_bad v a1 x1.length c1 _ hne).mono ?_; rintro e w2 ⟨rfl, hb2⟩)
      go_wp2_with (go_at_call 23; refine (known_ok _).mono ?_; rintro e w3 ⟨rfl, hb3⟩)
      go_wp2
      go_ret
      exact ⟨rfl, hb2.trans (hb3.mono hb2.size)⟩
end Go.Proofs.Ytbacbgicfomkbaa
