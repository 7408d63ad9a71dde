/- Contracts: ULID's Parse and ParseStrict, the thin package's UlidRead. -/
import Derived.Test.YtcojcohipmoopaaDoorUParseFn
namespace Go.Proofs.YtcojcohipmoopaaDoor
open Go.RowKit
set_option linter.unusedVariables false
set_option linter.unusedSimpArgs false

def Y16 : List Value := bvs (List.replicate 16 0)
theorem ulA : Arr Tryd.prog 33 16 Y16 where
  und := ⟨_, Tryd.underlying33, rfl⟩
  size := by kernel_rfl
  zero := fun w => by kernel_rfl
  len := rfl
set_option maxHeartbeats 1000000 in
set_option maxRecDepth 100000 in
theorem parse_len (g n cap : Nat) (a : Option Addr) (strict : Bool) (w : World) (hne : ((n : Int) != 26) = true) :
    Calls Tryd.prog 18 #[.slice a n cap, .bool strict, .pointer (some ⟨g, 0, none⟩)] w fun e w' => (∃ u x, e = .returned (.iface u x)) ∧ w' = w := by
  go_enter Tryd.func18, Tryd.ntmps18
  go_wp2
  go_ret
  exact ⟨⟨_, _, rfl⟩, rfl⟩
/-- What Parse and ParseStrict answer to a text of 26 signs. -/
def Read26 (T : List UInt8) (strict : Bool) (e : Ending) : Prop :=
  ∃ ys E, e = .returned (.tuple #[.agg (bvs ys).toArray, E]) ∧ ys.length = 16 ∧ (refuses T strict = true → ∃ u x, E = .iface u x) ∧ (refuses T strict = false → E = .nilIface ∧ ys = uB T)
set_option maxRecDepth 100000 in
theorem uParse_ok (T : List UInt8) (hT : T.length = 26) (w : World) (hD : DTab w) :
    Calls Tryd.prog 12 #[str T] w fun e w' => Read26 T false e ∧ Below w.heap.size w w' := by
  have hb := Below.refl w.heap.size w
  have LT := Lib.hid hT
  have HD := Lib.hid hD
  have hlt := hD.lt
  clear hT hD
  cases hr : refuses T false
  all_goals
    have HR := Lib.hid hr
    clear hr
    go_enter Tryd.func12, Tryd.ntmps12
    go_wp2_with (refine wp_alloc_blk ulA hb rfl rfl rfl (Nat.le_refl _) ?_)
    intro w1 b1 g1 s1 hb1
    clear s1
    have lt1 := b1.lt
    go_wp2_with (refine wp_of_string_f rfl rfl Tryd.underlying9 Tryd.underlying22 Tryd.underlying5 (bs := T) rfl rfl LT.out ?_)
    intro gv cap w2 f2 hgv hb2 hcap
    have b2 := b1.kept hb2
    have hw2 := hb1.trans (hb2.mono hb1.size)
    have hp := parse_tail w.heap.size gv cap 33 false T w2 b2 (fun i hi => (f2 i (by rw [LT.out]; exact hi)).1) (by omega) (by omega) (HD.out.kept hw2)
    have HP := Lib.hid hp
    clear hp b1 b2 f2
    go_wp2_with (go_at_call 18; refine HP.out.mono ?_)
    rintro e w3 ⟨hbad, hok, ys, hys, b3, hys2, g3⟩
    rw [HR.out] at hbad hok hys2
    have hw3 := hw2.grown g3 hw2.size (by rintro k ⟨⟩; exact Nat.le_refl _)
    have LY := Lib.hid (show (bvs ys).length = 16 by rw [bvs_length, hys])
    clear HP g3
    first
      | (obtain ⟨u, x, rfl⟩ := hbad rfl)
      | (obtain rfl := hok rfl
         obtain rfl := hys2 rfl)
    clear hbad hok hys2
    go_wp2_with (first | (refine wp_load_blk ulA rfl rfl rfl b3 LY.out ?_) | (refine wp_store_blk ulA hw3 rfl rfl rfl rfl b3 (Nat.le_refl _) LY.out LY.out (bvs_one _) ?_))
    intro w4 b4 g4 s4 hw4
    clear s4
    go_wp2
    refine ret_cell_tmp ulA rfl rfl rfl rfl b4 LY.out ⟨⟨_, _, rfl, hys, ?_, ?_⟩, hw4⟩
    · intro h; first | exact ⟨_, _, rfl⟩ | (rw [HR.out] at h; cases h)
    · intro h; first | exact ⟨rfl, rfl⟩ | (rw [HR.out] at h; cases h)
set_option maxRecDepth 100000 in
theorem uParse_len (T : List UInt8) (hT : T.length ≠ 26) (w : World) :
    Calls Tryd.prog 12 #[str T] w fun e w' => (∃ u x, e = .returned (.tuple #[.agg Y16.toArray, .iface u x])) ∧ Below w.heap.size w w' := by
  have hb := Below.refl w.heap.size w
  obtain ⟨n, hn⟩ : ∃ n, T.length = n := ⟨_, rfl⟩
  have HN := Lib.hid hn
  have hne : ((n : Int) != 26) = true := by rw [bne_iff_ne]; omega
  clear hn
  go_enter Tryd.func12, Tryd.ntmps12
  go_wp2_with (refine wp_alloc_blk ulA hb rfl rfl rfl (Nat.le_refl _) ?_)
  intro w1 b1 g1 s1 hb1
  clear s1
  go_wp2_with (refine wp_of_string_f rfl rfl Tryd.underlying9 Tryd.underlying22 Tryd.underlying5 (bs := T) rfl rfl HN.out ?_)
  intro gv cap w2 f2 hgv hb2 hcap
  have b2 := b1.kept hb2
  have hw2 := hb1.trans (hb2.mono hb1.size)
  clear b1 f2
  go_wp2_with (go_at_call 18; refine (parse_len _ n cap _ false _ hne).mono ?_)
  rintro e w3 ⟨⟨u, x, rfl⟩, rfl⟩
  go_wp2_with (first | (refine wp_load_blk ulA rfl rfl rfl b2 rfl ?_) | (refine wp_store_blk ulA hw2 rfl rfl rfl (cs := Y16) rfl b2 (Nat.le_refl _) rfl rfl (bvs_one _) ?_))
  intro w4 b4 g4 s4 hw4
  clear s4
  go_wp2
  exact ret_cell_tmp ulA rfl rfl rfl rfl b4 rfl ⟨⟨_, _, rfl⟩, hw4⟩
set_option maxRecDepth 100000 in
theorem uParseStrict_ok (T : List UInt8) (hT : T.length = 26) (w : World) (hD : DTab w) :
    Calls Tryd.prog 13 #[str T] w fun e w' => Read26 T true e ∧ Below w.heap.size w w' := by
  have hb := Below.refl w.heap.size w
  have LT := Lib.hid hT
  have HD := Lib.hid hD
  have hlt := hD.lt
  clear hT hD
  cases hr : refuses T true
  all_goals
    have HR := Lib.hid hr
    clear hr
    go_enter Tryd.func13, Tryd.ntmps13
    go_wp2_with (refine wp_alloc_blk ulA hb rfl rfl rfl (Nat.le_refl _) ?_)
    intro w1 b1 g1 s1 hb1
    clear s1
    have lt1 := b1.lt
    go_wp2_with (refine wp_of_string_f rfl rfl Tryd.underlying9 Tryd.underlying22 Tryd.underlying5 (bs := T) rfl rfl LT.out ?_)
    intro gv cap w2 f2 hgv hb2 hcap
    have b2 := b1.kept hb2
    have hw2 := hb1.trans (hb2.mono hb1.size)
    have hp := parse_tail w.heap.size gv cap 33 true T w2 b2 (fun i hi => (f2 i (by rw [LT.out]; exact hi)).1) (by omega) (by omega) (HD.out.kept hw2)
    have HP := Lib.hid hp
    clear hp b1 b2 f2
    go_wp2_with (go_at_call 18; refine HP.out.mono ?_)
    rintro e w3 ⟨hbad, hok, ys, hys, b3, hys2, g3⟩
    rw [HR.out] at hbad hok hys2
    have hw3 := hw2.grown g3 hw2.size (by rintro k ⟨⟩; exact Nat.le_refl _)
    have LY := Lib.hid (show (bvs ys).length = 16 by rw [bvs_length, hys])
    clear HP g3
    first
      | (obtain ⟨u, x, rfl⟩ := hbad rfl)
      | (obtain rfl := hok rfl
         obtain rfl := hys2 rfl)
    clear hbad hok hys2
    go_wp2_with (first | (refine wp_load_blk ulA rfl rfl rfl b3 LY.out ?_) | (refine wp_store_blk ulA hw3 rfl rfl rfl rfl b3 (Nat.le_refl _) LY.out LY.out (bvs_one _) ?_))
    intro w4 b4 g4 s4 hw4
    clear s4
    go_wp2
    refine ret_cell_tmp ulA rfl rfl rfl rfl b4 LY.out ⟨⟨_, _, rfl, hys, ?_, ?_⟩, hw4⟩
    · intro h; first | exact ⟨_, _, rfl⟩ | (rw [HR.out] at h; cases h)
    · intro h; first | exact ⟨rfl, rfl⟩ | (rw [HR.out] at h; cases h)
set_option maxRecDepth 100000 in
theorem uParseStrict_len (T : List UInt8) (hT : T.length ≠ 26) (w : World) :
    Calls Tryd.prog 13 #[str T] w fun e w' => (∃ u x, e = .returned (.tuple #[.agg Y16.toArray, .iface u x])) ∧ Below w.heap.size w w' := by
  have hb := Below.refl w.heap.size w
  obtain ⟨n, hn⟩ : ∃ n, T.length = n := ⟨_, rfl⟩
  have HN := Lib.hid hn
  have hne : ((n : Int) != 26) = true := by rw [bne_iff_ne]; omega
  clear hn
  go_enter Tryd.func13, Tryd.ntmps13
  go_wp2_with (refine wp_alloc_blk ulA hb rfl rfl rfl (Nat.le_refl _) ?_)
  intro w1 b1 g1 s1 hb1
  clear s1
  go_wp2_with (refine wp_of_string_f rfl rfl Tryd.underlying9 Tryd.underlying22 Tryd.underlying5 (bs := T) rfl rfl HN.out ?_)
  intro gv cap w2 f2 hgv hb2 hcap
  have b2 := b1.kept hb2
  have hw2 := hb1.trans (hb2.mono hb1.size)
  clear b1 f2
  go_wp2_with (go_at_call 18; refine (parse_len _ n cap _ true _ hne).mono ?_)
  rintro e w3 ⟨⟨u, x, rfl⟩, rfl⟩
  go_wp2_with (first | (refine wp_load_blk ulA rfl rfl rfl b2 rfl ?_) | (refine wp_store_blk ulA hw2 rfl rfl rfl (cs := Y16) rfl b2 (Nat.le_refl _) rfl rfl (bvs_one _) ?_))
  intro w4 b4 g4 s4 hw4
  clear s4
  go_wp2
  exact ret_cell_tmp ulA rfl rfl rfl rfl b4 rfl ⟨⟨_, _, rfl⟩, hw4⟩
set_option maxRecDepth 100000 in
theorem ubytes_ok (x : List UInt8) (w : World) (_hx : x.length = 16) :
    Calls Tryd.prog 14 #[.agg (bvs x).toArray] w fun e w' => e = .returned (.slice (some ⟨w.heap.size, 0, none⟩) 16 16) ∧ Blk w' w.heap.size (bvs x) 33 ∧ Below w.heap.size w w' := by
  have hb := Below.refl w.heap.size w
  go_enter Tryd.func14, Tryd.ntmps14
  go_wp2_with (refine wp_box_blk ulA hb rfl rfl rfl rfl (Nat.le_refl _) ?_)
  intro w1 b1 g1 s1 hb1
  go_wp2
  go_ret
  exact ⟨rfl, b1, hb1⟩
set_option maxRecDepth 100000 in
theorem uread_loose_ok (T : List UInt8) (hT : T.length = 26) (w : World) (hD : DTab w) (hr : refuses T false = false) :
    Calls Tryd.prog 6 #[str T, .bool false] w fun e w' => ∃ g, e = .returned (.tuple #[.slice (some ⟨g, 0, none⟩) 16 16, .bool true]) ∧ Blk w' g (bvs (uB T)) 33 ∧ Below w.heap.size w w' := by
  have HR := Lib.hid hr
  have HD := Lib.hid hD
  have HP := Lib.hid (uParse_ok T hT w hD)
  clear hr hD hT
  go_enter Tryd.func6, Tryd.ntmps6
  go_wp2_with (first | (go_at_call 12; refine HP.out.mono ?_; rintro e w2 ⟨⟨ys, E, rfl, hys, hbad, hok⟩, hb2⟩) | (refine wp_alloc_blk ulA hb2 rfl rfl rfl hb2.size ?_))
  intro w3 b3 g3 s3 hb3
  clear s3
  rw [HR.out] at hbad hok
  obtain ⟨rfl, rfl⟩ := hok rfl
  have LY := Lib.hid (show (bvs (uB T)).length = 16 by rw [bvs_length, hys])
  clear hbad hok
  go_wp2_with (refine wp_store_blk ulA hb3 rfl rfl rfl rfl b3 hb2.size rfl LY.out (bvs_one _) ?_)
  intro w4 b4 g4 s4 hb4
  clear s4
  go_wp2_with (first | (refine wp_load_blk ulA rfl rfl rfl b4 LY.out ?_) | (go_at_call 14; refine (ubytes_ok (uB T) _ (by simp [uB, uvals])).mono ?_))
  rintro e w8 ⟨rfl, b8, hb8⟩
  have hw8 := hb4.trans (hb8.mono hb4.size)
  go_wp2
  exact ret_tmp2 rfl rfl rfl rfl ⟨_, rfl, b8, hw8⟩
set_option maxRecDepth 100000 in
theorem uread_loose_bad (T : List UInt8) (hT : T.length = 26) (w : World) (hD : DTab w) (hr : refuses T false = true) :
    Calls Tryd.prog 6 #[str T, .bool false] w fun e w' => e = .returned (.tuple #[.slice none 0 0, .bool false]) ∧ Below w.heap.size w w' := by
  have HR := Lib.hid hr
  have HD := Lib.hid hD
  have HP := Lib.hid (uParse_ok T hT w hD)
  clear hr hD hT
  go_enter Tryd.func6, Tryd.ntmps6
  go_wp2_with (first | (go_at_call 12; refine HP.out.mono ?_; rintro e w2 ⟨⟨ys, E, rfl, hys, hbad, hok⟩, hb2⟩) | (refine wp_alloc_blk ulA hb2 rfl rfl rfl hb2.size ?_))
  intro w3 b3 g3 s3 hb3
  clear s3
  rw [HR.out] at hbad hok
  obtain ⟨u, x, rfl⟩ := hbad rfl
  have LY := Lib.hid (show (bvs ys).length = 16 by rw [bvs_length, hys])
  clear hbad hok
  go_wp2_with (refine wp_store_blk ulA hb3 rfl rfl rfl rfl b3 hb2.size rfl LY.out (bvs_one _) ?_)
  intro w4 b4 g4 s4 hb4
  clear s4
  go_wp2
  exact ret_tmp2 rfl rfl rfl rfl ⟨rfl, hb4⟩
set_option maxRecDepth 100000 in
theorem uread_strict_ok (T : List UInt8) (hT : T.length = 26) (w : World) (hD : DTab w) (hr : refuses T true = false) :
    Calls Tryd.prog 6 #[str T, .bool true] w fun e w' => ∃ g, e = .returned (.tuple #[.slice (some ⟨g, 0, none⟩) 16 16, .bool true]) ∧ Blk w' g (bvs (uB T)) 33 ∧ Below w.heap.size w w' := by
  have HR := Lib.hid hr
  have HD := Lib.hid hD
  have HP := Lib.hid (uParse_ok T hT w hD)
  have HS : Hid (∀ w', DTab w' → Calls Tryd.prog 13 #[str T] w' fun e w'' => Read26 T true e ∧ Below w'.heap.size w' w'') := Lib.hid (fun w' h => uParseStrict_ok T hT w' h)
  clear hr hD hT
  go_enter Tryd.func6, Tryd.ntmps6
  go_wp2_with (first | (go_at_call 12; refine HP.out.mono ?_; rintro e w2 ⟨⟨ys, E, rfl, hys, hbad, hok⟩, hb2⟩) | (refine wp_alloc_blk ulA hb2 rfl rfl rfl hb2.size ?_))
  intro w3 b3 g3 s3 hb3
  clear s3
  have LY := Lib.hid (show (bvs ys).length = 16 by rw [bvs_length, hys])
  clear hbad hok
  go_wp2_with (refine wp_store_blk ulA hb3 rfl rfl rfl rfl b3 hb2.size rfl LY.out (bvs_one _) ?_)
  intro w4 b4 g4 s4 hb4
  clear s4
  have hg0 := hb2.size
  generalize w2.heap.size = gg at *
  go_wp2_with (first | (go_at_call 13; refine (HS.out _ (HD.out.kept hb4)).mono ?_; rintro e w5 ⟨⟨zs, F, rfl, hzs, hbad, hok⟩, hb5⟩) | (refine wp_store_blk ulA (hb4.trans (hb5.mono hb4.size)) rfl rfl rfl (cs := bvs zs) rfl (b4.kept hb5) hg0 LY.out (by rw [bvs_length, hzs]) (bvs_one _) ?_))
  intro w6 b6 g6 s6 hb6
  clear s6
  rw [HR.out] at hbad hok
  obtain ⟨rfl, rfl⟩ := hok rfl
  have LZ := Lib.hid (show (bvs (uB T)).length = 16 by rw [bvs_length, hzs])
  clear hbad hok b4 b3
  go_wp2_with (first | (refine wp_load_blk ulA rfl rfl rfl b6 LZ.out ?_) | (go_at_call 14; refine (ubytes_ok (uB T) _ (by simp [uB, uvals])).mono ?_))
  rintro e w8 ⟨rfl, b8, hb8⟩
  have hw8 := hb6.trans (hb8.mono hb6.size)
  go_wp2
  exact ret_tmp2 rfl rfl rfl rfl ⟨_, rfl, b8, hw8⟩
set_option maxRecDepth 100000 in
theorem uread_strict_bad (T : List UInt8) (hT : T.length = 26) (w : World) (hD : DTab w) (hr : refuses T true = true) :
    Calls Tryd.prog 6 #[str T, .bool true] w fun e w' => e = .returned (.tuple #[.slice none 0 0, .bool false]) ∧ Below w.heap.size w w' := by
  have HR := Lib.hid hr
  have HD := Lib.hid hD
  have HP := Lib.hid (uParse_ok T hT w hD)
  have HS : Hid (∀ w', DTab w' → Calls Tryd.prog 13 #[str T] w' fun e w'' => Read26 T true e ∧ Below w'.heap.size w' w'') := Lib.hid (fun w' h => uParseStrict_ok T hT w' h)
  clear hr hD hT
  go_enter Tryd.func6, Tryd.ntmps6
  go_wp2_with (first | (go_at_call 12; refine HP.out.mono ?_; rintro e w2 ⟨⟨ys, E, rfl, hys, hbad, hok⟩, hb2⟩) | (refine wp_alloc_blk ulA hb2 rfl rfl rfl hb2.size ?_))
  intro w3 b3 g3 s3 hb3
  clear s3
  have LY := Lib.hid (show (bvs ys).length = 16 by rw [bvs_length, hys])
  clear hbad hok
  go_wp2_with (refine wp_store_blk ulA hb3 rfl rfl rfl rfl b3 hb2.size rfl LY.out (bvs_one _) ?_)
  intro w4 b4 g4 s4 hb4
  clear s4
  have hg0 := hb2.size
  generalize w2.heap.size = gg at *
  go_wp2_with (first | (go_at_call 13; refine (HS.out _ (HD.out.kept hb4)).mono ?_; rintro e w5 ⟨⟨zs, F, rfl, hzs, hbad, hok⟩, hb5⟩) | (refine wp_store_blk ulA (hb4.trans (hb5.mono hb4.size)) rfl rfl rfl (cs := bvs zs) rfl (b4.kept hb5) hg0 LY.out (by rw [bvs_length, hzs]) (bvs_one _) ?_))
  intro w6 b6 g6 s6 hb6
  clear s6
  rw [HR.out] at hbad hok
  obtain ⟨u, x, rfl⟩ := hbad rfl
  have LZ := Lib.hid (show (bvs zs).length = 16 by rw [bvs_length, hzs])
  clear hbad hok b4 b3
  go_wp2
  exact ret_tmp2 rfl rfl rfl rfl ⟨rfl, hb6⟩
set_option maxRecDepth 100000 in
theorem uread_loose_len (T : List UInt8) (hT : T.length ≠ 26) (w : World) :
    Calls Tryd.prog 6 #[str T, .bool false] w fun e w' => e = .returned (.tuple #[.slice none 0 0, .bool false]) ∧ Below w.heap.size w w' := by
  have HP := Lib.hid (uParse_len T hT w)
  clear hT
  go_enter Tryd.func6, Tryd.ntmps6
  go_wp2_with (first | (go_at_call 12; refine HP.out.mono ?_; rintro e w2 ⟨⟨u, x, rfl⟩, hb2⟩) | (refine wp_alloc_blk ulA hb2 rfl rfl rfl hb2.size ?_))
  intro w3 b3 g3 s3 hb3
  clear s3
  go_wp2_with (refine wp_store_blk ulA hb3 rfl rfl rfl (cs := Y16) rfl b3 hb2.size rfl rfl (bvs_one _) ?_)
  intro w4 b4 g4 s4 hb4
  clear s4
  go_wp2
  exact ret_tmp2 rfl rfl rfl rfl ⟨rfl, hb4⟩
set_option maxRecDepth 100000 in
theorem uread_strict_len (T : List UInt8) (hT : T.length ≠ 26) (w : World) :
    Calls Tryd.prog 6 #[str T, .bool true] w fun e w' => e = .returned (.tuple #[.slice none 0 0, .bool false]) ∧ Below w.heap.size w w' := by
  have HP := Lib.hid (uParse_len T hT w)
  have HS : Hid (∀ w', Calls Tryd.prog 13 #[str T] w' fun e w'' => (∃ u x, e = .returned (.tuple #[.agg Y16.toArray, .iface u x])) ∧ Below w'.heap.size w' w'') := Lib.hid (fun w' => uParseStrict_len T hT w')
  clear hT
  go_enter Tryd.func6, Tryd.ntmps6
  go_wp2_with (first | (go_at_call 12; refine HP.out.mono ?_; rintro e w2 ⟨⟨u, x, rfl⟩, hb2⟩) | (refine wp_alloc_blk ulA hb2 rfl rfl rfl hb2.size ?_))
  intro w3 b3 g3 s3 hb3
  clear s3
  go_wp2_with (refine wp_store_blk ulA hb3 rfl rfl rfl (cs := Y16) rfl b3 hb2.size rfl rfl (bvs_one _) ?_)
  intro w4 b4 g4 s4 hb4
  clear s4
  have hg0 := hb2.size
  generalize w2.heap.size = gg at *
  go_wp2_with (first | (go_at_call 13; refine (HS.out _).mono ?_; rintro e w5 ⟨⟨u', x', rfl⟩, hb5⟩) | (refine wp_store_blk ulA (hb4.trans (hb5.mono hb4.size)) rfl rfl rfl (cs := Y16) rfl (b4.kept hb5) hg0 rfl rfl (bvs_one _) ?_))
  intro w6 b6 g6 s6 hb6
  clear s6
  go_wp2
  exact ret_tmp2 rfl rfl rfl rfl ⟨rfl, hb6⟩
end Go.Proofs.YtcojcohipmoopaaDoor
