/- The law FnUuidRandom returns true, and turns nothing that was there. -/
import Derived.Test.YtbnkbgbgdolihaaUuidRandomFn
namespace Go.Proofs.Ytbnkbgbgdolihaa
open Go.RowKit
set_option linter.unusedVariables false
theorem feedArr : Arr Try.prog 70 2 (feedC none 0 0 .nilIface) where
  und := ⟨_, Try.underlying70, rfl⟩
  size := by kernel_rfl
  zero := fun w => by kernel_rfl
  len := rfl
set_option maxRecDepth 100000 in
theorem uuNil_ok (w : World) : Calls Try.prog 47 #[] w fun e w' => e = .returned (.agg Z16.toArray) ∧ Below w.heap.size w w' := by
  have hb := Below.refl w.heap.size w
  go_enter Try.func47, Try.ntmps47
  go_wp2_with (refine wp_alloc_blk uuArr hb rfl rfl rfl (Nat.le_refl _) ?_)
  intro w1 b1 g1 s1 hb1
  go_wp2_with (refine wp_store_blk uuArr hb1 rfl rfl rfl (cs := Z16) rfl b1 (Nat.le_refl _) rfl rfl (by decide) ?_)
  intro w2 b2 g2 s2 hb2
  go_wp2
  exact ret_cell uuArr rfl rfl rfl b2 rfl ⟨rfl, hb2⟩
set_option maxRecDepth 100000 in
set_option maxHeartbeats 1600000 in
theorem newRandom_empty (gf c : Nat) (a0 : Option Addr) (tf : TypeId) (w : World) (hf : Blk w gf (feedC a0 0 c (.iface 68 (.string EOF))) tf) :
    Calls Try.prog 30 #[.iface 67 (.pointer (some ⟨gf, 0, none⟩))] w fun e' w' => (∃ (msg : ByteArray), e' = .returned (.tuple #[.agg Z16.toArray, .iface 68 (.string msg)])) ∧ ∀ B0, B0 ≤ gf → B0 ≤ w.heap.size → Below B0 w w' := by
  have hb := Below.refl w.heap.size w
  have hgl := hf.lt
  go_enter Try.func30, Try.ntmps30
  go_wp2_with (refine wp_alloc_blk uuArr hb rfl rfl rfl (Nat.le_refl _) ?_)
  intro w1 b1 g1 s1 hb1
  clear s1
  go_wp2_with (refine wp_alloc_blk uuArr hb1 rfl rfl rfl hb1.size ?_)
  intro w2 b2 g2 s2 hb2
  clear s2
  have b12 := b1.grown g2 (by simp)
  have hq : w.heap.size < w1.heap.size := b1.lt
  have hfw1 : gf < w1.heap.size := by omega
  have f2 := hf.kept hb2
  have hk2 : ∀ {a : Option Addr} {bs : List UInt8}, Rd w a bs → Rd w2 a bs := fun h => h.kept hb2
  generalize w1.heap.size = q at *
  go_wp2_with (first | (go_at_call 46; refine (readFull_empty gf c 16 a0 tf q 0 16 _ _ _ f2 (by decide) (by decide) (by decide) b2).mono ?_; rintro e3 w3 ⟨⟨k3, m3, rfl⟩, -, T3⟩) | (go_at_call 47; refine (uuNil_ok _).mono ?_))
  rintro e4 w4 ⟨rfl, hb4'⟩
  have hb3 : ∀ B0, B0 ≤ gf → B0 ≤ w.heap.size → Below B0 w w3 := fun B0 h1 h2 => T3.below (hb2.mono h2) (by omega) h1
  have b13 : Blk w3 w.heap.size Z16 55 := (T3.block _ b12.lt (by omega) (by omega)).trans b12
  have b14 := b13.kept hb4'
  have hb4 : ∀ B0, B0 ≤ gf → B0 ≤ w.heap.size → Below B0 w w4 := fun B0 h1 h2 => (hb3 B0 h1 h2).trans (hb4'.mono (Nat.le_trans h2 (hb3 B0 h1 h2).size))
  have hb40 : Below 0 w w4 := hb4 0 (Nat.zero_le _) (Nat.zero_le _)
  clear T3
  go_wp2_with (refine wp_store_blk uuArr hb40 rfl rfl rfl (cs := Z16) rfl b14 (Nat.zero_le _) rfl rfl (by decide) ?_)
  intro w6 b6 g6 s6 _
  clear s6
  have hb6 : ∀ B0, B0 ≤ gf → B0 ≤ w.heap.size → Below B0 w w6 := fun B0 h1 h2 => (hb4 B0 h1 h2).grown g6 (Nat.le_trans h2 (hb4 B0 h1 h2).size) (by rintro j ⟨⟩; exact h2)
  go_wp2
  exact ret_cell_tmp uuArr rfl rfl rfl rfl b6 rfl ⟨⟨_, rfl⟩, hb6⟩
set_option maxRecDepth 100000 in
set_option maxHeartbeats 1600000 in
theorem newRandom_short (gf len c b o : Nat) (bs : List UInt8) (tf : TypeId) (w : World) (hf : Blk w gf (feedC (some ⟨b, o, none⟩) len c (.iface 68 (.string EOF))) tf) (hr : Rd w (some ⟨b, o, none⟩) bs) (hl : bs.length = len) (h0 : 0 < len) (hm : len < 16) (hlc : len ≤ c) (hc : c ≤ 9223372036854775807) (hbf : b ≠ gf) :
    Calls Try.prog 30 #[.iface 67 (.pointer (some ⟨gf, 0, none⟩))] w fun e' w' => (∃ (msg : ByteArray), e' = .returned (.tuple #[.agg Z16.toArray, .iface 68 (.string msg)])) ∧ ∀ B0, B0 ≤ gf → B0 ≤ w.heap.size → Below B0 w w' := by
  have hb := Below.refl w.heap.size w
  have hgl := hf.lt
  have hbw : b < w.heap.size := by
    obtain ⟨b', o', he, hcc⟩ := hr.2.resolve_left (by intro h; simp [h] at hl; omega)
    obtain rfl : b = b' := by simp at he; exact he.1
    exact World.block_lt_of_cell? w _ (hcc 0 (by omega))
  have HL := Lib.hid hl
  clear hl
  go_enter Try.func30, Try.ntmps30
  go_wp2_with (refine wp_alloc_blk uuArr hb rfl rfl rfl (Nat.le_refl _) ?_)
  intro w1 b1 g1 s1 hb1
  clear s1
  go_wp2_with (refine wp_alloc_blk uuArr hb1 rfl rfl rfl hb1.size ?_)
  intro w2 b2 g2 s2 hb2
  clear s2
  have b12 := b1.grown g2 (by simp)
  have hq : w.heap.size < w1.heap.size := b1.lt
  have hfw1 : gf < w1.heap.size := by omega
  have f2 := hf.kept hb2
  have hk2 : ∀ {a : Option Addr} {bs : List UInt8}, Rd w a bs → Rd w2 a bs := fun h => h.kept hb2
  generalize w1.heap.size = q at *
  go_wp2_with (first | (go_at_call 46; refine (readFull_short gf b o len c 16 bs tf q 0 16 _ _ _ f2 (hk2 hr) HL.out h0 hm (by decide) hlc hc (by decide) b2 (by decide) (by omega) (by omega) hbf).mono ?_; rintro e3 w3 ⟨⟨k3, m3, rfl⟩, -, T3⟩) | (go_at_call 47; refine (uuNil_ok _).mono ?_))
  rintro e4 w4 ⟨rfl, hb4'⟩
  have hb3 : ∀ B0, B0 ≤ gf → B0 ≤ w.heap.size → Below B0 w w3 := fun B0 h1 h2 => T3.below (hb2.mono h2) (by omega) h1
  have b13 : Blk w3 w.heap.size Z16 55 := (T3.block _ b12.lt (by omega) (by omega)).trans b12
  have b14 := b13.kept hb4'
  have hb4 : ∀ B0, B0 ≤ gf → B0 ≤ w.heap.size → Below B0 w w4 := fun B0 h1 h2 => (hb3 B0 h1 h2).trans (hb4'.mono (Nat.le_trans h2 (hb3 B0 h1 h2).size))
  have hb40 : Below 0 w w4 := hb4 0 (Nat.zero_le _) (Nat.zero_le _)
  clear T3
  go_wp2_with (refine wp_store_blk uuArr hb40 rfl rfl rfl (cs := Z16) rfl b14 (Nat.zero_le _) rfl rfl (by decide) ?_)
  intro w6 b6 g6 s6 _
  clear s6
  have hb6 : ∀ B0, B0 ≤ gf → B0 ≤ w.heap.size → Below B0 w w6 := fun B0 h1 h2 => (hb4 B0 h1 h2).grown g6 (Nat.le_trans h2 (hb4 B0 h1 h2).size) (by rintro j ⟨⟩; exact h2)
  go_wp2
  exact ret_cell_tmp uuArr rfl rfl rfl rfl b6 rfl ⟨⟨_, rfl⟩, hb6⟩
set_option maxRecDepth 100000 in
set_option maxHeartbeats 1600000 in
theorem uuidRandom_ok (a0 : Option Addr) (x : List UInt8) (len c : Nat) (w : World) (h0 : Rd w a0 x) (hl : x.length = len) (hm : 16 ≤ len) (hlc : len ≤ c) (hc : c ≤ 9223372036854775807) :
    Calls Try.prog 14 #[.slice a0 len c] w fun e' w' => ∃ g cap, e' = .returned (.tuple #[.slice g 16 cap, .bool true]) ∧ Rd w' g (formL x 4) ∧ Below w.heap.size w w' := by
  have hb := Below.refl w.heap.size w
  obtain ⟨b, o, rfl, hcc⟩ := h0.2.resolve_left (by intro h; simp [h] at hl; omega)
  have hbw : b < w.heap.size := World.block_lt_of_cell? w _ (hcc 0 (by omega))
  clear hcc
  have HL := Lib.hid hl
  have LF := Lib.hid (formL_length x 4 (by omega))
  have L16 := Lib.hid (show (bvs (formL x 4)).length = 16 by rw [bvs_length, LF.out])
  clear hl
  go_enter Try.func14, Try.ntmps14
  go_wp2_with (refine wp_box_blk feedArr hb rfl rfl (cs := feedC _ _ _ (.iface 68 (.string EOF))) rfl rfl (Nat.le_refl _) ?_)
  intro w1 b1 g1 s1 hb1
  have hws : w.heap.size ≤ w1.heap.size := hb1.size
  clear s1
  have r1 := h0.kept hb1
  go_wp2_with (first | (go_at_call 30; refine (newRandom_ok w.heap.size len c b o x _ _ _ b1 r1 HL.out hm hlc hc (by omega)).mono ?_; rintro e2 w2 ⟨rfl, hB2, -⟩; have hb2 := hb1.trans (hB2 w.heap.size (Nat.le_refl _) hws)) | (refine wp_alloc_blk uuArr hb2 rfl rfl rfl hb2.size ?_))
  intro w3 b3 g3 s3 hb3
  clear s3
  go_wp2_with (refine wp_store_blk uuArr hb3 rfl rfl rfl rfl b3 hb2.size rfl L16.out (bvs_one _) ?_)
  intro w4 b4 g4 s4 hb4
  clear s4
  go_wp2_with (first | (refine wp_load_blk uuArr rfl rfl rfl b4 L16.out ?_) | (go_at_call 31; refine (bytesOf_ok _ _ LF.out).mono ?_; rintro e w7 ⟨v7, rfl, o7, hb7⟩))
  obtain ⟨g, cap, hv, r7, -⟩ := o7.rd
  rw [LF.out] at hv
  subst hv
  exact ret_tmp2 rfl rfl rfl rfl ⟨_, _, rfl, r7, hb4.trans (hb7.mono hb4.size)⟩
set_option maxRecDepth 100000 in
set_option maxHeartbeats 1600000 in
theorem uuidRandom_empty (a0 : Option Addr) (len c : Nat) (w : World) (h0 : Rd w a0 []) (hl : len = 0) :
    Calls Try.prog 14 #[.slice a0 len c] w fun e' w' => e' = .returned (.tuple #[.slice none 0 0, .bool false]) ∧ Below w.heap.size w w' := by
  have hb := Below.refl w.heap.size w
  subst hl
  go_enter Try.func14, Try.ntmps14
  go_wp2_with (refine wp_box_blk feedArr hb rfl rfl (cs := feedC _ _ _ (.iface 68 (.string EOF))) rfl rfl (Nat.le_refl _) ?_)
  intro w1 b1 g1 s1 hb1
  have hws : w.heap.size ≤ w1.heap.size := hb1.size
  clear s1
  have r1 := h0.kept hb1
  go_wp2_with (first | (go_at_call 30; refine (newRandom_empty w.heap.size c a0 _ _ b1).mono ?_; rintro e2 w2 ⟨⟨m2, rfl⟩, hB2⟩; have hb2 := hb1.trans (hB2 w.heap.size (Nat.le_refl _) hws)) | (refine wp_alloc_blk uuArr hb2 rfl rfl rfl hb2.size ?_))
  intro w3 b3 g3 s3 hb3
  clear s3
  go_wp2_with (refine wp_store_blk uuArr hb3 rfl rfl rfl (cs := Z16) rfl b3 hb2.size rfl rfl (by decide) ?_)
  intro w4 b4 g4 s4 hb4
  clear s4
  go_wp2
  exact ret_tmp2 rfl rfl rfl rfl ⟨rfl, hb4⟩
set_option maxRecDepth 100000 in
set_option maxHeartbeats 1600000 in
theorem uuidRandom_short (a0 : Option Addr) (x : List UInt8) (len c : Nat) (w : World) (h0 : Rd w a0 x) (hl : x.length = len) (hp : 0 < len) (hm : len < 16) (hlc : len ≤ c) (hc : c ≤ 9223372036854775807) :
    Calls Try.prog 14 #[.slice a0 len c] w fun e' w' => e' = .returned (.tuple #[.slice none 0 0, .bool false]) ∧ Below w.heap.size w w' := by
  have hb := Below.refl w.heap.size w
  obtain ⟨b, o, rfl, hcc⟩ := h0.2.resolve_left (by intro h; simp [h] at hl; omega)
  have hbw : b < w.heap.size := World.block_lt_of_cell? w _ (hcc 0 (by omega))
  clear hcc
  have HL := Lib.hid hl
  clear hl
  go_enter Try.func14, Try.ntmps14
  go_wp2_with (refine wp_box_blk feedArr hb rfl rfl (cs := feedC _ _ _ (.iface 68 (.string EOF))) rfl rfl (Nat.le_refl _) ?_)
  intro w1 b1 g1 s1 hb1
  have hws : w.heap.size ≤ w1.heap.size := hb1.size
  clear s1
  have r1 := h0.kept hb1
  go_wp2_with (first | (go_at_call 30; refine (newRandom_short w.heap.size len c b o x _ _ b1 r1 HL.out hp hm hlc hc (by omega)).mono ?_; rintro e2 w2 ⟨⟨m2, rfl⟩, hB2⟩; have hb2 := hb1.trans (hB2 w.heap.size (Nat.le_refl _) hws)) | (refine wp_alloc_blk uuArr hb2 rfl rfl rfl hb2.size ?_))
  intro w3 b3 g3 s3 hb3
  clear s3
  go_wp2_with (refine wp_store_blk uuArr hb3 rfl rfl rfl (cs := Z16) rfl b3 hb2.size rfl rfl (by decide) ?_)
  intro w4 b4 g4 s4 hb4
  clear s4
  go_wp2
  exact ret_tmp2 rfl rfl rfl rfl ⟨rfl, hb4⟩
set_option maxRecDepth 100000 in
set_option maxHeartbeats 1600000 in
theorem uuidRandom_walk (a1 : Option Addr) (x1 : List UInt8) (c1 : Nat) (w : World) (h1 : Rd w a1 x1) (hc : x1.length ≤ c1) (hc2 : c1 ≤ 9223372036854775807) :
    Calls Try.prog 4 #[.slice a1 x1.length c1] w fun e w' => e = .returned (.bool true) ∧ Below w.heap.size w w' := by
  have hb := Below.refl w.heap.size w
  have hl := h1.1
  by_cases hbig : 2147483647 < x1.length
  · clear h1
    generalize x1.length = len at *
    go_enter Try.func4, Try.ntmps4
    go_wp2
    go_ret
    exact ⟨rfl, hb⟩
  · by_cases hlen : 16 ≤ x1.length
    · have LF := Lib.hid (formL_length x1 4 hlen)
      generalize hle : x1.length = len at *
      have HL := Lib.hid hle
      have hlt : decide ((len : Int) < 16) = false := decide_eq_false (by omega)
      have HM := Lib.hid hlen
      have HC := Lib.hid hc
      clear hle hlen hc
      go_enter Try.func4, Try.ntmps4
      go_wp2_with (first | (go_at_call 14; refine (uuidRandom_ok a1 x1 len c1 _ h1 HL.out HM.out HC.out hc2).mono ?_; rintro e w2 ⟨g2, cap2, rfl, r2, hb2⟩) | (go_at_call 16; refine (form_ok a1 x1 len c1 4 _ (h1.kept hb2) HL.out HM.out HC.out (by decide)).mono ?_; rintro e w3 ⟨g3, cap3, rfl, r3, hb3, -⟩) | (go_at_call 15; refine (same_eq (r2.kept hb3) r3 LF.out LF.out).mono ?_; rintro e w4 ⟨rfl, n4, rfl⟩))
      go_ret
      exact ⟨rfl, below_drewN (hb2.trans (hb3.mono hb2.size)) _⟩
    · have hlt : decide ((x1.length : Int) < 16) = true := decide_eq_true (by omega)
      by_cases h0 : x1 = []
      · subst h0
        go_enter Try.func4, Try.ntmps4
        go_wp2_with (first | (go_at_call 14; refine (uuidRandom_empty a1 0 c1 _ h1 rfl).mono ?_; rintro e w2 ⟨rfl, hb2⟩) | (go_at_call 12; refine (known_ok _).mono ?_; rintro e w3 ⟨rfl, hb3⟩))
        go_ret
        exact ⟨rfl, hb2.trans (hb3.mono hb2.size)⟩
      · have hp : 0 < x1.length := List.length_pos_iff.2 h0
        clear h0
        generalize hle : x1.length = len at *
        have HL := Lib.hid hle
        clear hle
        go_enter Try.func4, Try.ntmps4
        go_wp2_with (first | (go_at_call 14; refine (uuidRandom_short a1 x1 len c1 _ h1 HL.out hp (by omega) hc hc2).mono ?_; rintro e w2 ⟨rfl, hb2⟩) | (go_at_call 12; refine (known_ok _).mono ?_; rintro e w3 ⟨rfl, hb3⟩))
        go_ret
        exact ⟨rfl, hb2.trans (hb3.mono hb2.size)⟩
end Go.Proofs.Ytbnkbgbgdolihaa
