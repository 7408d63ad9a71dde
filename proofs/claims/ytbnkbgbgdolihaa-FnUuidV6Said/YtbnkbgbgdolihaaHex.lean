/- Hexadecimal text: the plain words, encoding/hex.Encode, and a UUID's String and URN. -/
import Derived.Test.YtbnkbgbgdolihaaUuidForm
namespace Go.Proofs.Ytbnkbgbgdolihaa
open Go.RowKit

def d16 : List UInt8 := [48, 49, 50, 51, 52, 53, 54, 55, 56, 57, 97, 98, 99, 100, 101, 102]
/-- The two digits of a byte. -/
def hex2 (b : UInt8) : List UInt8 := [d16.getD (b.toNat / 16) 0, d16.getD (b.toNat % 16) 0]
/-- The digits of bytes. -/
def hexL (x : List UInt8) : List UInt8 := x.flatMap hex2
theorem hexL_length (x : List UInt8) : (hexL x).length = 2 * x.length := by
  induction x with
  | nil => rfl
  | cons b x ih => simp [hexL, List.flatMap_cons, hex2] at ih ⊢; omega
theorem hexL_append (x y : List UInt8) : hexL (x ++ y) = hexL x ++ hexL y := by simp [hexL]
theorem writ_snoc (dl : List UInt8) (m N : Nat) : writ dl (m + 1) N = writ dl m (N / dl.length) ++ [dl.getD (N % dl.length) 0] := by
  unfold writ
  rw [List.range_succ, List.map_append]
  congr 1
  · apply List.map_congr_left
    intro i hi
    rw [List.mem_range] at hi
    rw [Nat.div_div_eq_div_mul, ← Nat.pow_succ', show m + 1 - 1 - i = (m - 1 - i).succ by omega]
  · simp
/-- The digits of 16 of the number that bytes are. -/
theorem writ_hex (x : List UInt8) : writ d16 (2 * x.length) (num x) = hexL x := by
  suffices h : ∀ (l : List UInt8), writ d16 (2 * l.reverse.length) (num l.reverse) = hexL l.reverse by simpa using h x.reverse
  intro l
  induction l with
  | nil => rfl
  | cons b l ih =>
    have hb := b.toNat_lt
    have e : num (l.reverse ++ [b]) = num l.reverse * 256 + b.toNat := by simp [num]
    rw [List.reverse_cons, hexL_append, List.length_append, List.length_singleton, e, show 2 * (l.reverse.length + 1) = (2 * l.reverse.length + 1) + 1 by omega, writ_snoc, writ_snoc]
    have e1 : (num l.reverse * 256 + b.toNat) / d16.length / d16.length = num l.reverse := by
      rw [show d16.length = 16 from rfl]; omega
    have e2 : (num l.reverse * 256 + b.toNat) / d16.length % d16.length = b.toNat / 16 := by
      rw [show d16.length = 16 from rfl]; omega
    have e3 : (num l.reverse * 256 + b.toNat) % d16.length = b.toNat % 16 := by
      rw [show d16.length = 16 from rfl]; omega
    rw [e1, e2, e3, ih, List.append_assoc]
    simp [hexL, hex2]
/-- The text of a UUID. -/
def utext (x : List UInt8) : List UInt8 := hexL (x.take 4) ++ (45 :: (hexL ((x.drop 4).take 2) ++ (45 :: (hexL ((x.drop 6).take 2) ++ (45 :: (hexL ((x.drop 8).take 2) ++ (45 :: hexL (x.drop 10))))))))
theorem hexL_cons (b : UInt8) (x : List UInt8) : hexL (b :: x) = d16.getD (b.toNat / 16) 0 :: d16.getD (b.toNat % 16) 0 :: hexL x := rfl
theorem hexL_get : ∀ (x : List UInt8) (k : Nat), k < x.length → B (hexL x) (2 * k) = (d16.getD (B x k / 16) 0).toNat ∧ B (hexL x) (2 * k + 1) = (d16.getD (B x k % 16) 0).toNat
  | [], k, h => by simp at h
  | b :: x, 0, _ => by rw [hexL_cons]; simp [B]
  | b :: x, k + 1, h => by
    have := hexL_get x k (by simpa using h)
    rw [hexL_cons]
    have e1 : 2 * (k + 1) = 2 * k + 1 + 1 := by omega
    have e2 : 2 * (k + 1) + 1 = 2 * k + 1 + 1 + 1 := by omega
    simp only [B] at this ⊢
    rw [e1]
    simpa using this
/-- A piece laid behind a piece. -/
theorem splice_next {α : Type} (L l m : List α) (off i : Nat) (hi : off + l.length = i) (h : i + m.length ≤ L.length) : splice (splice L off l) i m = splice L off (l ++ m) := by
  subst hi
  have h1 : (L.take off ++ l).length = off + l.length := by rw [List.length_append, List.length_take]; omega
  have e1 : (splice L off l).take (off + l.length) = L.take off ++ l := by
    rw [splice, ← List.append_assoc, List.take_left' h1]
  have e2 : (splice L off l).drop (off + l.length + m.length) = L.drop (off + (l ++ m).length) := by
    rw [splice, ← List.append_assoc, List.drop_append, h1, List.drop_of_length_le (by omega), List.nil_append, List.drop_drop, List.length_append]
    congr 1
    omega
  rw [splice, e1, e2, splice, List.append_assoc, List.append_assoc]
theorem splice_put {α : Type} (L l : List α) (off i : Nat) (v : α) (hi : off + l.length = i) (h : i < L.length) : (splice L off l).set i v = splice L off (l ++ [v]) := by
  rw [← splice_next L l [v] off i hi (by simp; omega)]
  have hl : (splice L off l).length = L.length := by simp [splice]; omega
  generalize splice L off l = M at *
  rw [List.set_eq_take_append_cons_drop, if_pos (by rw [hl]; exact h)]
  simp [splice]
set_option maxRecDepth 100000 in
theorem hexEncode_ok (gd od dl dc n c : Nat) (cs : List Value) (td : TypeId) (a : Option Addr) (x : List UInt8) (w : World) (hd : Blk w gd cs td) (h1 : Rd w a x) (hx : x.length = n) (hne : ∀ p, a = some p → p.block ≠ gd) (hdl : 2 * n ≤ dl) (hdl2 : dl ≤ 1000) (hfit : od + 2 * n ≤ cs.length) :
    Calls Try.prog 60 #[.slice (some ⟨gd, od, none⟩) dl dc, .slice a n c] w fun e w' => e = .returned (.int .i64 (2 * n : Nat)) ∧ Blk w' gd (splice cs od (bvs (hexL x))) td ∧ w.grownBy w' (some gd) := by
  have LH : Hid ((bvs (hexL x)).length = 2 * n) := Lib.hid (by rw [bvs_length, hexL_length, hx])
  have L := Lib.hid hx
  have hn : n ≤ 500 := by omega
  clear hx
  go_enter Try.func60, Try.ntmps60
  go_wp2
  go_loopw [5, 10] (fun j i wr => ∃ k : Nat, k ≤ n ∧ i = .int .i64 k ∧ j = .int .i64 (2 * k : Nat) ∧ Blk wr gd (splice cs od ((bvs (hexL x)).take (2 * k))) td ∧ w.grownBy wr (some gd)) (fun _ i _ => n - (intOf i).toNat)
  case atStart => exact ⟨0, Nat.zero_le _, rfl, rfl, by rw [Nat.mul_zero, List.take_zero, splice_nil]; exact hd, World.grownBy.refl _ _⟩
  case round =>
    obtain ⟨k, hk, rfl, rfl, hB, hG⟩ := hrel
    by_cases hlt : k < n
    · obtain ⟨b, o, rfl, hc⟩ := h1.2.resolve_left (by intro h; have := L.out; simp [h] at this; omega)
      have hcell := hG.cell (hc k (by rw [L.out]; exact hlt)) (by have := hne _ rfl; simpa using this)
      obtain ⟨hg1, hg2⟩ := hexL_get x k (by rw [L.out]; exact hlt)
      have e1 := splice_snoc cs (bvs (hexL x)) od (2 * k) _ (bvs_get (hexL x) (2 * k) (by rw [hexL_length, L.out]; omega)) (by rw [LH.out]; exact hfit)
      have e2 := splice_snoc cs (bvs (hexL x)) od (2 * k + 1) _ (bvs_get (hexL x) (2 * k + 1) (by rw [hexL_length, L.out]; omega)) (by rw [LH.out]; exact hfit)
      rw [hg1] at e1
      rw [hg2] at e2
      have hbl := B_lt x k
      have f1 := u8_and_nat (B x k) 15 hbl (by decide)
      rw [show B x k &&& 15 = B x k % 16 from Nat.and_two_pow_sub_one_eq_mod _ 4] at f1
      have F1 : bits .and .u8 (B x k : Int) 15 = ((B x k % 16 : Nat) : Int) := f1
      have F2 : (B x k : Int) / 16 = ((B x k / 16 : Nat) : Int) := by omega
      generalize hh : B x k / 16 = h at *
      generalize hl : B x k % 16 = l at *
      have hh16 : h < 16 := by omega
      have hl16 : l < 16 := by omega
      generalize B x k = bb at *
      have E1 := Lib.hid e1
      have E2 := Lib.hid e2
      have LS : ∀ i, i ≤ 2 * n → (splice cs od ((bvs (hexL x)).take i)).length = cs.length := fun i hi => length_splice _ _ _ (by rw [List.length_take, LH.out]; omega)
      have LS1 := Lib.hid (LS (2 * k) (by omega))
      have LS2 := Lib.hid (LS (2 * k + 1) (by omega))
      have hv : ∀ (m : Nat) (hm : m < (⟨d16.toArray⟩ : ByteArray).size), ((⟨d16.toArray⟩ : ByteArray)[m]'hm) = d16.getD m 0 := by
        intro m hm
        show d16.toArray[m]'hm = _
        have : m < d16.length := hm
        simp [this]
      clear hg1 hg2 e1 e2 f1 hh hl LS
      go_wp2_with (refine wp_store_cell rfl rfl (by kernel_rfl) rfl rfl rfl hB (by rw [LS1.out]; omega) ?_)
      intro w2 b2 g2 s2
      clear s2
      have b2' : Blk w2 gd ((splice cs od ((bvs (hexL x)).take (2 * k))).set (od + 2 * k) (.int .u8 ((d16.getD h 0).toNat : Int))) td := by rw [← hv h hh16]; exact b2
      rw [E1.out] at b2'
      have hG2 := grown_trans hG g2
      clear b2 g2 hB hG
      go_wp2_with (refine wp_store_cell (i := od + (2 * k + 1)) rfl rfl (by kernel_rfl) rfl rfl rfl b2' (by rw [LS2.out]; omega) ?_)
      intro w3 b3 g3 s3
      clear s3
      have b3' : Blk w3 gd ((splice cs od ((bvs (hexL x)).take (2 * k + 1))).set (od + (2 * k + 1)) (.int .u8 ((d16.getD l 0).toNat : Int))) td := by rw [← hv l hl16]; exact b3
      rw [E2.out] at b3'
      have hG3 := grown_trans hG2 g3
      clear b3 g3 b2' hG2
      go_wp2
      go_roundw
      case rel => exact ⟨k + 1, by omega, by go_num, by go_num, b3', hG3⟩
      case measure => simp [intOf]; omega
    · obtain rfl : k = n := by omega
      rw [List.take_of_length_le (by rw [LH.out]; exact Nat.le_refl _)] at hB
      go_wp2
      go_ret
      exact ⟨by rw [Nat.mul_comm]; rfl, hB, hG⟩
end Go.Proofs.Ytbnkbgbgdolihaa
