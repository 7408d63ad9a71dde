/- Contract of the reference's Form. -/
import Derived.Test.YtjmmkjdlkecmhaaUuidForm
namespace Go.Proofs.Ytjmmkjdlkecmhaa
open Go.RowKit
set_option linter.unusedVariables false

theorem splice_whole (l m : List Value) (h : l.length = m.length) : splice l 0 m = m := by simp [splice, h]
theorem and15 : ∀ b : Nat, b < 256 → b &&& 15 = b % 16 := fun b _ => Nat.and_two_pow_sub_one_eq_mod b 4
theorem and63 : ∀ b : Nat, b < 256 → b &&& 63 = b % 64 := fun b _ => Nat.and_two_pow_sub_one_eq_mod b 6
theorem or_ver (b v : Nat) (hb : b < 256) : (b % 16) ||| (16 * v) = b % 16 + 16 * v := by
  rw [Nat.or_comm, nat_join 4 (16 * v) (b % 16) (by omega) (by omega)]; omega
theorem or_var (b : Nat) : (b % 64) ||| 128 = b % 64 + 128 := by
  rw [Nat.or_comm, nat_join 6 128 (b % 64) (by decide) (by omega)]; omega
theorem B_set_ne (x : List UInt8) (i j : Nat) (u : UInt8) (h : i ≠ j) : B (x.set i u) j = B x j := by
  unfold B
  simp [List.getD_eq_getElem?_getD, List.getElem?_set, h]
theorem B_take (x : List UInt8) (k i : Nat) (h : i < k) : B (x.take k) i = B x i := by simp [B, h]
section
variable (x : List UInt8) (v : Nat)
def form6 : List UInt8 := (x.take 16).set 6 (UInt8.ofNat (B x 6 % 16 + 16 * v))
theorem form6_length (h : 16 ≤ x.length) : (form6 x v).length = 16 := by simp [form6]; omega
theorem form6_B8 : B (form6 x v) 8 = B x 8 := by rw [form6, B_set_ne _ _ _ _ (by decide), B_take _ _ _ (by decide)]
theorem form_all : (form6 x v).set 8 (UInt8.ofNat (B x 8 % 64 + 128)) = formL x v := rfl
end
/-- A slice of the call's own that is not empty: its block, and its room. -/
theorem OwnB.blkC {w : World} {base e : Nat} {v : Value} {xs : List UInt8} (h : OwnB w base e v xs) {n : Nat} (hn' : xs.length = n) (h0 : 0 < n) : ∃ g cap more, v = .slice (some ⟨g, 0, none⟩) n cap ∧ Blk w g (bvs xs ++ more) e ∧ base ≤ g ∧ n ≤ cap := by
  subst hn'
  rcases h.2 with ⟨rfl, hn⟩ | ⟨g, cap, cur, rfl, hg, hh, hnc, hm, hs, htake⟩
  · omega
  · refine ⟨g, cap, cur.toList.drop xs.length, rfl, ?_, hg, hnc⟩
    unfold Blk
    rw [Nat.mul_one] at htake
    rw [← htake, List.take_append_drop]
    exact hh
set_option maxRecDepth 100000 in
theorem form_ok (a1 : Option Addr) (x : List UInt8) (len c v : Nat) (w : World) (h1 : Rd w a1 x) (hl : x.length = len) (hx : 16 ≤ len) (hc : len ≤ c) (hv : v < 16) :
    Calls Try.prog 8 #[.slice a1 len c, .int .i64 v] w fun e w' => ∃ a cap, e = .returned (.slice a 16 cap) ∧ Rd w' a (formL x v) ∧ Below w.heap.size w w' ∧ 16 ≤ cap := by
  have hb := Below.refl w.heap.size w
  have o1 := OwnB.empty w w.heap.size 5 (Nat.le_refl _)
  have hb1 := hb.alloc (Nat.le_refl _) (.cells #[] 5)
  have r1 : Rd (w.alloc (.cells #[] 5)) a1 (x.take 16) := (h1.take 16).kept hb1
  have L16 := Lib.hid (show (x.take 16).length = 16 by rw [List.length_take]; omega)
  have LF := Lib.hid (form6_length x v (by omega))
  have LL := Lib.hid (formL_length x v (by omega))
  have hb6 := B_lt x 6
  have hb8 := B_lt x 8
  have f1 := u8_and_nat (B x 6) 15 hb6 (by decide)
  rw [and15 _ hb6] at f1
  have f2 := u8_or_nat (B x 6 % 16) (16 * v) (by omega) (by omega)
  rw [or_ver _ _ hb6] at f2
  have f3 := u8_and_nat (B x 8) 63 hb8 (by decide)
  rw [and63 _ hb8] at f3
  have f4 := u8_or_nat (B x 8 % 64) 128 (by omega) (by decide)
  rw [or_var] at f4
  have F1 : bits .and .u8 (B x 6 : Int) 15 = ((B x 6 % 16 : Nat) : Int) := f1
  have F2 : bits .or .u8 ((B x 6 % 16 : Nat) : Int) ((16 * v : Nat) : Int) = ((B x 6 % 16 + 16 * v : Nat) : Int) := f2
  have F3 : bits .and .u8 (B x 8 : Int) 63 = ((B x 8 % 64 : Nat) : Int) := f3
  have F4 : bits .or .u8 ((B x 8 % 64 : Nat) : Int) 128 = ((B x 8 % 64 + 128 : Nat) : Int) := f4
  have HSet6 : Hid (∀ more, (bvs (x.take 16) ++ more).set 6 (.int .u8 ((B x 6 % 16 + 16 * v : Nat) : Int)) = bvs (form6 x v) ++ more) := Lib.hid (by
    intro more
    rw [List.set_append_left _ _ (by rw [bvs_length, L16.out]; decide), bvs_set _ _ _ (by omega)]; rfl)
  have HSet8 : Hid (∀ more, (bvs (form6 x v) ++ more).set 8 (.int .u8 ((B x 8 % 64 + 128 : Nat) : Int)) = bvs (formL x v) ++ more) := Lib.hid (by
    intro more
    rw [List.set_append_left _ _ (by rw [bvs_length, LF.out]; decide), bvs_set _ _ _ (by omega)]; rfl)
  have HB8 := Lib.hid (form6_B8 x v)
  clear f1 f2 f3 f4
  generalize hm6 : B x 6 % 16 + 16 * v = m6 at *
  generalize hm8 : B x 8 % 64 + 128 = m8 at *
  have hm6l : m6 < 256 := by omega
  have hm8l : m8 < 256 := by omega
  clear hm6 hm8
  generalize B x 6 % 16 = d6 at *
  generalize B x 8 % 64 = d8 at *
  have hv16 : IntKind.i64.wrap ((v : Int) * 16) = ((16 * v : Nat) : Int) := by rw [IntKind.wrap_i64]; omega
  generalize h16 : 16 * v = v16 at *
  have h16l : v16 < 256 := by omega
  go_enter Try.func8, Try.ntmps8
  go_wp2_with (at_builtin; refine wp_append_rd rfl rfl Try.underlying22 info5 rfl rfl rfl o1 r1 L16.out (by rw [L16.out]; decide) (by simp) ?_)
  intro v2 w2 o2 g2
  have hb2 := hb1.grown g2 (by simp) (fun k hk => (o1.lt k hk).1)
  obtain ⟨g, cap, more, rfl, B2, hg, hcap⟩ := o2.blkC L16.out (by decide)
  clear o2 g2 o1 r1 hb1
  have c6 := B2.cell 6
  rw [List.getElem?_append_left (by rw [bvs_length, L16.out]; decide), bvs_get _ _ (by rw [L16.out]; decide), B_take _ _ _ (by decide)] at c6
  have hi6 : 6 < (bvs (x.take 16) ++ more).length := by rw [List.length_append, bvs_length, L16.out]; omega
  go_wp2_with (refine wp_store_cell rfl rfl (by kernel_rfl) rfl rfl rfl B2 hi6 ?_)
  intro w3 B3 g3 s3
  clear s3
  rw [HSet6.out] at B3
  have hb3 := hb2.grown g3 hb2.size (by rintro j ⟨⟩; exact hg)
  have c8 := B3.cell 8
  rw [List.getElem?_append_left (by rw [bvs_length, LF.out]; decide), bvs_get _ _ (by rw [LF.out]; decide), HB8.out] at c8
  have hi8 : 8 < (bvs (form6 x v) ++ more).length := by rw [List.length_append, bvs_length, LF.out]; omega
  clear c6 hi6 B2
  go_wp2_with (refine wp_store_cell rfl rfl (by kernel_rfl) rfl rfl rfl B3 hi8 ?_)
  intro w4 B4 g4 s4
  clear s4
  rw [HSet8.out] at B4
  have hb4 := hb3.grown g4 hb3.size (by rintro j ⟨⟩; exact hg)
  go_wp2
  go_ret
  exact ⟨_, _, rfl, B4.rdMore (by rw [LL.out]; decide), hb4, hcap⟩
end Go.Proofs.Ytjmmkjdlkecmhaa
