/- Contracts: the reference's Form, and a random UUID read from a reader. -/
import Derived.Test.YtbnkbgbgdolihaaUuidForm
import Derived.Test.YtbnkbgbgdolihaaReadU
namespace Go.Proofs.Ytbnkbgbgdolihaa
open Go.RowKit
set_option linter.unusedVariables false

theorem splice_whole (l m : List Value) (h : l.length = m.length) : splice l 0 m = m := by simp [splice, h]
theorem and15 : ∀ b : Nat, b < 256 → b &&& 15 = b % 16 := fun b _ => Nat.and_two_pow_sub_one_eq_mod b 4
theorem and63 : ∀ b : Nat, b < 256 → b &&& 63 = b % 64 := fun b _ => Nat.and_two_pow_sub_one_eq_mod b 6
theorem or_ver (b v : Nat) (hb : b < 256) : (b % 16) ||| (16 * v) = b % 16 + 16 * v := by
  rw [Nat.or_comm, nat_join 4 (16 * v) (b % 16) (by omega) (by omega)]; omega
theorem or_var (b : Nat) : (b % 64) ||| 128 = b % 64 + 128 := by
  rw [Nat.or_comm, nat_join 6 128 (b % 64) (by decide) (by omega)]; omega
theorem B_set_ne (x : List UInt8) (i j : Nat) (u : UInt8) (h : i ≠ j) : B (x.set i u) j = B x j := by
  unfold B
  simp [List.getD_eq_getElem?_getD, List.getElem?_set, h]
theorem B_take (x : List UInt8) (k i : Nat) (h : i < k) : B (x.take k) i = B x i := by simp [B, h]
section
variable (x : List UInt8) (v : Nat)
def form6 : List UInt8 := (x.take 16).set 6 (UInt8.ofNat (B x 6 % 16 + 16 * v))
theorem form6_length (h : 16 ≤ x.length) : (form6 x v).length = 16 := by simp [form6]; omega
theorem form6_B8 : B (form6 x v) 8 = B x 8 := by rw [form6, B_set_ne _ _ _ _ (by decide), B_take _ _ _ (by decide)]
theorem form_all : (form6 x v).set 8 (UInt8.ofNat (B x 8 % 64 + 128)) = formL x v := rfl
end
/-- A slice of the call's own that is not empty: its block, and its room. -/
theorem OwnB.blkC {w : World} {base e : Nat} {v : Value} {xs : List UInt8} (h : OwnB w base e v xs) {n : Nat} (hn' : xs.length = n) (h0 : 0 < n) : ∃ g cap more, v = .slice (some ⟨g, 0, none⟩) n cap ∧ Blk w g (bvs xs ++ more) e ∧ base ≤ g ∧ n ≤ cap := by
  subst hn'
  rcases h.2 with ⟨rfl, hn⟩ | ⟨g, cap, cur, rfl, hg, hh, hnc, hm, hs, htake⟩
  · omega
  · refine ⟨g, cap, cur.toList.drop xs.length, rfl, ?_, hg, hnc⟩
    unfold Blk
    rw [Nat.mul_one] at htake
    rw [← htake, List.take_append_drop]
    exact hh
set_option maxRecDepth 100000 in
theorem form_ok (a1 : Option Addr) (x : List UInt8) (len c v : Nat) (w : World) (h1 : Rd w a1 x) (hl : x.length = len) (hx : 16 ≤ len) (hc : len ≤ c) (hv : v < 16) :
    Calls Try.prog 16 #[.slice a1 len c, .int .i64 v] w fun e w' => ∃ a cap, e = .returned (.slice a 16 cap) ∧ Rd w' a (formL x v) ∧ Below w.heap.size w w' ∧ 16 ≤ cap := by
  have hb := Below.refl w.heap.size w
  have o1 := OwnB.empty w w.heap.size 5 (Nat.le_refl _)
  have hb1 := hb.alloc (Nat.le_refl _) (.cells #[] 5)
  have r1 : Rd (w.alloc (.cells #[] 5)) a1 (x.take 16) := (h1.take 16).kept hb1
  have L16 := Lib.hid (show (x.take 16).length = 16 by rw [List.length_take]; omega)
  have LF := Lib.hid (form6_length x v (by omega))
  have LL := Lib.hid (formL_length x v (by omega))
  have hb6 := B_lt x 6
  have hb8 := B_lt x 8
  have f1 := u8_and_nat (B x 6) 15 hb6 (by decide)
  rw [and15 _ hb6] at f1
  have f2 := u8_or_nat (B x 6 % 16) (16 * v) (by omega) (by omega)
  rw [or_ver _ _ hb6] at f2
  have f3 := u8_and_nat (B x 8) 63 hb8 (by decide)
  rw [and63 _ hb8] at f3
  have f4 := u8_or_nat (B x 8 % 64) 128 (by omega) (by decide)
  rw [or_var] at f4
  have F1 : bits .and .u8 (B x 6 : Int) 15 = ((B x 6 % 16 : Nat) : Int) := f1
  have F2 : bits .or .u8 ((B x 6 % 16 : Nat) : Int) ((16 * v : Nat) : Int) = ((B x 6 % 16 + 16 * v : Nat) : Int) := f2
  have F3 : bits .and .u8 (B x 8 : Int) 63 = ((B x 8 % 64 : Nat) : Int) := f3
  have F4 : bits .or .u8 ((B x 8 % 64 : Nat) : Int) 128 = ((B x 8 % 64 + 128 : Nat) : Int) := f4
  have HSet6 : Hid (∀ more, (bvs (x.take 16) ++ more).set 6 (.int .u8 ((B x 6 % 16 + 16 * v : Nat) : Int)) = bvs (form6 x v) ++ more) := Lib.hid (by
    intro more
    rw [List.set_append_left _ _ (by rw [bvs_length, L16.out]; decide), bvs_set _ _ _ (by omega)]; rfl)
  have HSet8 : Hid (∀ more, (bvs (form6 x v) ++ more).set 8 (.int .u8 ((B x 8 % 64 + 128 : Nat) : Int)) = bvs (formL x v) ++ more) := Lib.hid (by
    intro more
    rw [List.set_append_left _ _ (by rw [bvs_length, LF.out]; decide), bvs_set _ _ _ (by omega)]; rfl)
  have HB8 := Lib.hid (form6_B8 x v)
  clear f1 f2 f3 f4
  generalize hm6 : B x 6 % 16 + 16 * v = m6 at *
  generalize hm8 : B x 8 % 64 + 128 = m8 at *
  have hm6l : m6 < 256 := by omega
  have hm8l : m8 < 256 := by omega
  clear hm6 hm8
  generalize B x 6 % 16 = d6 at *
  generalize B x 8 % 64 = d8 at *
  have hv16 : IntKind.i64.wrap ((v : Int) * 16) = ((16 * v : Nat) : Int) := by rw [IntKind.wrap_i64]; omega
  generalize h16 : 16 * v = v16 at *
  have h16l : v16 < 256 := by omega
  go_enter Try.func16, Try.ntmps16
  go_wp2_with (at_builtin; refine wp_append_rd rfl rfl Try.underlying22 info5 rfl rfl rfl o1 r1 L16.out (by rw [L16.out]; decide) (by simp) ?_)
  intro v2 w2 o2 g2
  have hb2 := hb1.grown g2 (by simp) (fun k hk => (o1.lt k hk).1)
  obtain ⟨g, cap, more, rfl, B2, hg, hcap⟩ := o2.blkC L16.out (by decide)
  clear o2 g2 o1 r1 hb1
  have c6 := B2.cell 6
  rw [List.getElem?_append_left (by rw [bvs_length, L16.out]; decide), bvs_get _ _ (by rw [L16.out]; decide), B_take _ _ _ (by decide)] at c6
  have hi6 : 6 < (bvs (x.take 16) ++ more).length := by rw [List.length_append, bvs_length, L16.out]; omega
  go_wp2_with (refine wp_store_cell rfl rfl (by kernel_rfl) rfl rfl rfl B2 hi6 ?_)
  intro w3 B3 g3 s3
  clear s3
  rw [HSet6.out] at B3
  have hb3 := hb2.grown g3 hb2.size (by rintro j ⟨⟩; exact hg)
  have c8 := B3.cell 8
  rw [List.getElem?_append_left (by rw [bvs_length, LF.out]; decide), bvs_get _ _ (by rw [LF.out]; decide), HB8.out] at c8
  have hi8 : 8 < (bvs (form6 x v) ++ more).length := by rw [List.length_append, bvs_length, LF.out]; omega
  clear c6 hi6 B2
  go_wp2_with (refine wp_store_cell rfl rfl (by kernel_rfl) rfl rfl rfl B3 hi8 ?_)
  intro w4 B4 g4 s4
  clear s4
  rw [HSet8.out] at B4
  have hb4 := hb3.grown g4 hb3.size (by rintro j ⟨⟩; exact hg)
  go_wp2
  go_ret
  exact ⟨_, _, rfl, B4.rdMore (by rw [LL.out]; decide), hb4, hcap⟩
set_option maxRecDepth 100000 in
set_option maxHeartbeats 1600000 in
theorem newRandom_ok (gf len c b o : Nat) (x : List UInt8) (e : Value) (tf : TypeId) (w : World) (hf : Blk w gf (feedC (some ⟨b, o, none⟩) len c e) tf) (hr : Rd w (some ⟨b, o, none⟩) x) (hl : x.length = len) (hm : 16 ≤ len) (hlc : len ≤ c) (hc : c ≤ 9223372036854775807) (hbf : b ≠ gf) :
    Calls Try.prog 30 #[.iface 67 (.pointer (some ⟨gf, 0, none⟩))] w fun e' w' => e' = .returned (.tuple #[.agg (bvs (formL x 4)).toArray, .nilIface]) ∧ (∀ B0, B0 ≤ gf → B0 ≤ w.heap.size → Below B0 w w') ∧ w.grownBy w' (some gf) := by
  have hb := Below.refl w.heap.size w
  have hbw : b < w.heap.size := by
    obtain ⟨b', o', he, hcc⟩ := hr.2.resolve_left (by intro h; simp [h] at hl; omega)
    obtain rfl : b = b' := by simp at he; exact he.1
    exact World.block_lt_of_cell? w _ (hcc 0 (by omega))
  have hgl := hf.lt
  have HL := Lib.hid hl
  have L16 := Lib.hid (show (x.take 16).length = 16 by rw [List.length_take]; omega)
  have LF := Lib.hid (form6_length x 4 (by omega))
  have LL := Lib.hid (show (bvs (formL x 4)).length = 16 by rw [bvs_length, formL_length x 4 (by omega)])
  have hb6 := B_lt x 6
  have hb8 := B_lt x 8
  have f1 := u8_and_nat (B x 6) 15 hb6 (by decide)
  rw [and15 _ hb6] at f1
  have f2 := u8_or_nat (B x 6 % 16) (16 * 4) (by omega) (by omega)
  rw [or_ver _ _ hb6] at f2
  have f3 := u8_and_nat (B x 8) 63 hb8 (by decide)
  rw [and63 _ hb8] at f3
  have f4 := u8_or_nat (B x 8 % 64) 128 (by omega) (by decide)
  rw [or_var] at f4
  have F1 : bits .and .u8 (B x 6 : Int) 15 = ((B x 6 % 16 : Nat) : Int) := f1
  have F2 : bits .or .u8 ((B x 6 % 16 : Nat) : Int) 64 = ((B x 6 % 16 + 16 * 4 : Nat) : Int) := f2
  have F3 : bits .and .u8 (B x 8 : Int) 63 = ((B x 8 % 64 : Nat) : Int) := f3
  have F4 : bits .or .u8 ((B x 8 % 64 : Nat) : Int) 128 = ((B x 8 % 64 + 128 : Nat) : Int) := f4
  have HSet6 : Hid ((bvs (x.take 16)).set 6 (.int .u8 ((B x 6 % 16 + 16 * 4 : Nat) : Int)) = bvs (form6 x 4)) := Lib.hid (by rw [bvs_set _ _ _ (by omega)]; rfl)
  have HSet8 : Hid ((bvs (form6 x 4)).set 8 (.int .u8 ((B x 8 % 64 + 128 : Nat) : Int)) = bvs (formL x 4)) := Lib.hid (by rw [bvs_set _ _ _ (by omega)]; rfl)
  have HB8 := Lib.hid (form6_B8 x 4)
  clear f1 f2 f3 f4 hl
  generalize hm6 : B x 6 % 16 + 16 * 4 = m6 at *
  generalize hm8 : B x 8 % 64 + 128 = m8 at *
  have hm6l : m6 < 256 := by omega
  have hm8l : m8 < 256 := by omega
  clear hm6 hm8
  generalize B x 6 % 16 = d6 at *
  generalize B x 8 % 64 = d8 at *
  go_enter Try.func30, Try.ntmps30
  go_wp2_with (refine wp_alloc_blk uuArr hb rfl rfl rfl (Nat.le_refl _) ?_)
  intro w1 b1 g1 s1 hb1
  clear s1
  go_wp2_with (refine wp_alloc_blk uuArr hb1 rfl rfl rfl hb1.size ?_)
  intro w2 b2 g2 s2 hb2
  clear s2
  have b12 := b1.grown g2 (by simp)
  have hq : w.heap.size < w1.heap.size := b1.lt
  have hfw1 : gf < w1.heap.size := by omega
  have f2 := hf.kept hb2
  have r2 := hr.kept hb2
  generalize w1.heap.size = q at *
  go_wp2_with (go_at_call 46; refine (readFull_ok gf b o len c 16 x e tf q 0 16 _ _ _ f2 r2 HL.out (by decide) hm hlc hc (by decide) b2 (by decide) (by omega) (by omega) hbf).mono ?_)
  rintro e3 w3 ⟨rfl, b3, T3⟩
  rw [splice_whole _ _ (by rw [bvs_length, L16.out]; rfl)] at b3
  have hb3 : ∀ B0, B0 ≤ gf → B0 ≤ w.heap.size → Below B0 w w3 := fun B0 h1 h2 => T3.below (hb2.mono h2) (by omega) h1
  have b13 : Blk w3 w.heap.size Z16 55 := (T3.block _ b12.lt (by omega) (by omega)).trans b12
  have G3 : w.grownBy w3 (some gf) := ⟨T3.os.trans hb2.os, T3.tape.trans hb2.tape, T3.output.trans hb2.output, by rw [T3.size]; exact hb2.size, fun k hk hkr => (T3.block k (Nat.lt_of_lt_of_le hk hb2.size) (by omega) (by simpa using hkr)).trans (hb2.block k hk)⟩
  have h03 : w.heap.size ≤ w3.heap.size := (hb3 0 (Nat.zero_le _) (Nat.zero_le _)).size
  clear T3
  have c6 := b3.cell 6
  rw [bvs_get _ _ (by rw [L16.out]; decide), B_take _ _ _ (by decide)] at c6
  have hi6 : 6 < (bvs (x.take 16)).length := by rw [bvs_length, L16.out]; decide
  go_wp2_with (refine wp_store_cell rfl rfl (by kernel_rfl) rfl rfl rfl b3 hi6 ?_)
  intro w4 b4 g4 s4
  clear s4
  rw [HSet6.out] at b4
  have b14 := b13.grown g4 (by intro e; have := Option.some.inj e; omega)
  have hb4 : ∀ B0, B0 ≤ gf → B0 ≤ w.heap.size → Below B0 w w4 := fun B0 h1 h2 => (hb3 B0 h1 h2).grown g4 (by omega) (by rintro j ⟨⟩; omega)
  have h04 : w.heap.size ≤ w4.heap.size := Nat.le_trans h03 g4.size
  have c8 := b4.cell 8
  rw [bvs_get _ _ (by rw [LF.out]; decide), HB8.out] at c8
  have hi8 : 8 < (bvs (form6 x 4)).length := by rw [bvs_length, LF.out]; decide
  clear c6 hi6 b3
  go_wp2_with (refine wp_store_cell rfl rfl (by kernel_rfl) rfl rfl rfl b4 hi8 ?_)
  intro w5 b5 g5 s5
  clear s5
  rw [HSet8.out] at b5
  have b15 := b14.grown g5 (by intro e; have := Option.some.inj e; omega)
  have hb5 : ∀ B0, B0 ≤ gf → B0 ≤ w.heap.size → Below B0 w w5 := fun B0 h1 h2 => (hb4 B0 h1 h2).grown g5 (by omega) (by rintro j ⟨⟩; omega)
  have h05 : w.heap.size ≤ w5.heap.size := Nat.le_trans h04 g5.size
  have hb5' : Below 0 w w5 := hb5 0 (Nat.zero_le _) (Nat.zero_le _)
  clear c8 hi8 b4
  go_wp2_with (first | (refine wp_load_blk uuArr rfl rfl rfl b5 LL.out ?_) | (refine wp_store_blk uuArr hb5' rfl rfl rfl rfl b15 (Nat.zero_le _) rfl LL.out (bvs_one _) ?_))
  intro w6 b6 g6 s6 _
  clear s6
  have hb6 : ∀ B0, B0 ≤ gf → B0 ≤ w.heap.size → Below B0 w w6 := fun B0 h1 h2 => (hb5 B0 h1 h2).grown g6 (by omega) (by rintro j ⟨⟩; exact h2)
  go_wp2
  exact ret_cell_tmp uuArr rfl rfl rfl rfl b6 LL.out ⟨rfl, hb6, (grown_new (grown_new (grown_new G3 g4 (Nat.le_of_lt hq)) g5 (Nat.le_of_lt hq)) g6 (Nat.le_refl _))⟩
end Go.Proofs.Ytbnkbgbgdolihaa
