/- The law FnUuidText returns true, and turns nothing that was there. -/
import Derived.Test.YtbnkbgbgdolihaaUuidTextFn
import Derived.Test.YtbnkbgbgdolihaaStr
namespace Go.Proofs.Ytbnkbgbgdolihaa
open Go.RowKit
set_option linter.unusedVariables false
set_option linter.unusedSimpArgs false
def Z36 : List Value := List.replicate 36 (.int .u8 0)
def Z45 : List Value := List.replicate 45 (.int .u8 0)
theorem arr36 : Arr Try.prog 97 36 Z36 where
  und := ⟨_, Try.underlying97, rfl⟩
  size := by kernel_rfl
  zero := fun w => by kernel_rfl
  len := rfl
theorem arr45 : Arr Try.prog 99 45 Z45 where
  und := ⟨_, Try.underlying99, rfl⟩
  size := by kernel_rfl
  zero := fun w => by kernel_rfl
  len := rfl
theorem splice_whole (l m : List Value) (h : l.length = m.length) : splice l 0 m = m := by simp [splice, h]
set_option maxRecDepth 100000 in
theorem uustring_ok (x : List UInt8) (w : World) (hx : x.length = 16) :
    Calls Try.prog 32 #[.agg (bvs x).toArray] w fun e w' => e = .returned (str (utext x)) ∧ Below w.heap.size w w' := by
  have hb := Below.refl w.heap.size w
  have L := Lib.hid hx
  have L16 := Lib.hid (show (bvs x).length = 16 by rw [bvs_length, hx])
  have LU := Lib.hid (utext_length x hx)
  clear hx
  go_enter Try.func32, Try.ntmps32
  go_wp2_with (refine wp_box_blk uuArr hb rfl rfl rfl rfl (Nat.le_refl _) ?_)
  intro w1 b1 g1 s1 hb1
  clear s1
  go_wp2_with (refine wp_alloc_blk arr36 hb1 rfl rfl rfl hb1.size ?_)
  intro w2 b2 g2 s2 hb2
  clear s2
  have b12 := b1.grown g2 (by simp)
  have hs1 : w.heap.size ≤ w1.heap.size := hb1.size
  generalize w1.heap.size = q at *
  go_wp2_with fail
  refine region_plan (fun w' => Below w2.heap.size w2 w') [(0, 0), (1, 0), (2, 2)] rfl (by kernel_rfl) (by kernel_rfl) rfl (by intro c a d v w h; cases d <;> exact h) (fun _ _ h => h) ?_
  intro w3 hpW hb3
  clear hpW
  simp only [planOps, List.filterMap_cons, List.filterMap_nil, List.getElem?_cons_succ, List.getElem?_cons_zero, Option.map_some]
  repeat (first | (refine plan_still rfl (still_blk uuArr rfl rfl (fun w' hS => b12.kept hS) L16.out) ?_) | (refine plan_skip rfl ?_) | (refine plan_still (v := ?_) rfl (fun w' hS => ?_) ?_; rotate_left; (focus (go_simp; first | done | with_reducible rfl))); simp only [Act.put, List.setIfInBounds_toArray, List.set_cons_zero, List.set_cons_succ])
  have b23 := b2.kept hb3
  have hb23 := hb2.trans (hb3.mono hb2.size)
  refine plan_last ?_
  go_wp2_with (go_at_call 48; refine (encodeHex_ok q 0 Z36 _ x _ b23 L.out (by decide)).mono ?_)
  rintro e w4 ⟨rfl, b4, g4⟩
  rw [splice_whole _ _ (by rw [bvs_length, LU.out]; rfl)] at b4
  have hb4 := hb23.grown g4 hb23.size (by rintro j ⟨⟩; exact hs1)
  have r4 := b4.rd (by rw [LU.out]; decide)
  go_wp2
  refine plan_nil ?_
  go_wp2_with (refine wp_to_string rfl rfl Try.underlying22 Try.underlying5 Try.underlying9 rfl r4 LU.out ?_)
  go_ret
  exact ⟨rfl, hb4⟩
/-- The signs of 'urn:uuid:'. -/
def urnL : List UInt8 := [117, 114, 110, 58, 117, 117, 105, 100, 58]
set_option maxRecDepth 100000 in
theorem uuurn_ok (x : List UInt8) (w : World) (hx : x.length = 16) :
    Calls Try.prog 33 #[.agg (bvs x).toArray] w fun e w' => e = .returned (str (urnL ++ utext x)) ∧ Below w.heap.size w w' := by
  have hb := Below.refl w.heap.size w
  have L := Lib.hid hx
  have L16 := Lib.hid (show (bvs x).length = 16 by rw [bvs_length, hx])
  have LU := Lib.hid (utext_length x hx)
  have LV := Lib.hid (show (urnL ++ utext x).length = 45 by rw [List.length_append, utext_length x hx]; rfl)
  clear hx
  go_enter Try.func33, Try.ntmps33
  go_wp2_with (refine wp_box_blk uuArr hb rfl rfl rfl rfl (Nat.le_refl _) ?_)
  intro w1 b1 g1 s1 hb1
  clear s1
  go_wp2_with (refine wp_alloc_blk arr45 hb1 rfl rfl rfl hb1.size ?_)
  intro w2 b2 g2 s2 hb2
  clear s2
  have b12 := b1.grown g2 (by simp)
  have hs1 : w.heap.size ≤ w1.heap.size := hb1.size
  have hq0 : w.heap.size < w1.heap.size := b1.lt
  generalize w1.heap.size = q at *
  go_wp2_with (refine wp_copy_strall (sl := urnL) (n := 9) rfl rfl Try.underlying22 (by kernel_rfl) rfl rfl b2 rfl (by decide) (by decide) ?_)
  intro w3 b3 g3
  have b13 := b12.grown g3 (by intro e; have := Option.some.inj e; omega)
  have hb3 := hb2.grown g3 hb2.size (by rintro j ⟨⟩; exact hs1)
  go_wp2_with fail
  refine region_plan (fun w' => Below w3.heap.size w3 w') [(0, 0), (1, 0), (2, 2)] rfl (by kernel_rfl) (by kernel_rfl) rfl (by intro c a d v w h; cases d <;> exact h) (fun _ _ h => h) ?_
  intro w4 hpW hb4
  clear hpW
  simp only [planOps, List.filterMap_cons, List.filterMap_nil, List.getElem?_cons_succ, List.getElem?_cons_zero, Option.map_some]
  repeat (first | (refine plan_still rfl (still_blk uuArr rfl rfl (fun w' hS => b13.kept hS) L16.out) ?_) | (refine plan_skip rfl ?_) | (refine plan_still (v := ?_) rfl (fun w' hS => ?_) ?_; rotate_left; (focus (go_simp; first | done | with_reducible rfl))); simp only [Act.put, List.setIfInBounds_toArray, List.set_cons_zero, List.set_cons_succ])
  have b34 := b3.kept hb4
  have hb34 := hb3.trans (hb4.mono hb3.size)
  refine plan_last ?_
  go_wp2_with (go_at_call 48; refine (encodeHex_ok q 9 _ _ x _ b34 L.out (by decide)).mono ?_)
  rintro e w5 ⟨rfl, b5, g5⟩
  rw [splice_next _ _ _ 0 9 rfl (by rw [bvs_length, LU.out]; decide), ← bvs_append, splice_whole _ _ (by rw [bvs_length, LV.out]; rfl)] at b5
  have hb5 := hb34.grown g5 hb34.size (by rintro j ⟨⟩; exact hs1)
  have r5 := b5.rd (by rw [LV.out]; decide)
  go_wp2
  refine plan_nil ?_
  go_wp2_with (refine wp_to_string rfl rfl Try.underlying22 Try.underlying5 Try.underlying9 rfl r5 LV.out ?_)
  go_ret
  exact ⟨rfl, hb5⟩
set_option maxRecDepth 100000 in
theorem uuidText_ok (a1 : Option Addr) (x : List UInt8) (c1 : Nat) (w : World) (h1 : Rd w a1 x) (hx : x.length = 16) :
    Calls Try.prog 17 #[.slice a1 16 c1] w fun e w' => e = .returned (.tuple #[str (utext x), str (urnL ++ utext x), .bool true]) ∧ Below w.heap.size w w' := by
  have L := Lib.hid hx
  have L16 := Lib.hid (show (bvs x).length = 16 by rw [bvs_length, hx])
  clear hx
  go_enter Try.func17, Try.ntmps17
  go_wp2_with (go_at_call 26; refine (uuFromBytes_ok a1 x c1 _ h1 L.out).mono ?_)
  rintro e w2 ⟨rfl, hb2⟩
  go_wp2_with (refine wp_alloc_blk uuArr hb2 rfl rfl rfl hb2.size ?_)
  intro w3 b3 g3 s3 hb3
  clear s3
  go_wp2_with (refine wp_store_blk uuArr hb3 rfl rfl rfl rfl b3 hb2.size rfl L16.out (bvs_one _) ?_)
  intro w4 b4 g4 s4 hb4
  clear s4
  go_wp2_with fail
  refine region_plan (fun w' => Below w4.heap.size w4 w') [(0, 0), (2, 0), (1, 1), (3, 1), (4, 0), (5, 0), (6, 0)] rfl (by kernel_rfl) (by kernel_rfl) rfl (by intro c a d v w h; cases d <;> exact h) (fun _ _ h => h) ?_
  intro w5 hpW hb5
  clear hpW
  simp only [planOps, List.filterMap_cons, List.filterMap_nil, List.getElem?_cons_succ, List.getElem?_cons_zero, Option.map_some]
  repeat (first | (refine plan_still rfl (still_blk uuArr rfl rfl (fun w' hS => b4.kept hS) L16.out) ?_) | (refine plan_skip rfl ?_) | (refine plan_still (v := ?_) rfl (fun w' hS => ?_) ?_; rotate_left; (focus (go_simp; first | done | with_reducible rfl))); simp only [Act.put, List.setIfInBounds_toArray, List.set_cons_zero, List.set_cons_succ])
  refine plan_do ?_
  go_wp2_with (go_at_call 32; refine (uustring_ok x _ L.out).mono ?_)
  rintro e w6 ⟨rfl, hb6⟩
  have hb46 := hb5.trans (hb6.mono hb5.size)
  go_wp2
  refine ⟨hb46, ?_⟩
  repeat (first | (refine plan_still rfl (still_blk uuArr rfl rfl (fun w' hS => b4.kept hS) L16.out) ?_) | (refine plan_skip rfl ?_) | (refine plan_still (v := ?_) rfl (fun w' hS => ?_) ?_; rotate_left; (focus (go_simp; first | done | with_reducible rfl))); simp only [Act.put, List.setIfInBounds_toArray, List.set_cons_zero, List.set_cons_succ])
  refine plan_do ?_
  go_wp2_with (go_at_call 33; refine (uuurn_ok x _ L.out).mono ?_)
  rintro e w7 ⟨rfl, hb7⟩
  have hb47 := hb46.trans (hb7.mono hb46.size)
  go_wp2
  refine ⟨hb47, ?_⟩
  repeat (first | (refine plan_skip rfl ?_) | (refine plan_still (v := ?_) rfl (fun w' hS => ?_) ?_; rotate_left; (focus (go_simp; first | done | with_reducible rfl))); simp only [Act.put, List.setIfInBounds_toArray, List.set_cons_zero, List.set_cons_succ])
  refine plan_nil ?_
  go_wp2
  exact ret_tmp3 rfl rfl rfl rfl rfl ⟨rfl, hb4.trans (hb47.mono hb4.size)⟩
set_option maxRecDepth 100000 in
theorem uuidText_bad (a1 : Option Addr) (n c1 : Nat) (w : World) (hne : ((n : Int) != 16) = true) :
    Calls Try.prog 17 #[.slice a1 n c1] w fun e w' => e = .returned (.tuple #[str [], str [], .bool false]) ∧ Below w.heap.size w w' := by
  go_enter Try.func17, Try.ntmps17
  go_wp2_with (go_at_call 26; refine (uuFromBytes_bad a1 n c1 _ hne).mono ?_)
  rintro e w2 ⟨rfl, hb2⟩
  go_wp2_with (refine wp_alloc_blk uuArr hb2 rfl rfl rfl hb2.size ?_)
  intro w3 b3 g3 s3 hb3
  clear s3
  go_wp2_with (refine wp_store_blk uuArr hb3 rfl rfl rfl (cs := Z16) rfl b3 hb2.size rfl rfl (by decide) ?_)
  intro w4 b4 g4 s4 hb4
  clear s4
  go_wp2
  exact ret_tmp3 rfl rfl rfl rfl rfl ⟨rfl, hb4⟩
/-- The digits of the bytes, in parts. -/
theorem utext_parts (x : List UInt8) (hx : x.length = 16) :
    (((((((hexL x).take 8 ++ [45] ++ ((hexL x).drop 8).take 4) ++ [45]) ++ ((hexL x).drop 12).take 4) ++ [45]) ++ ((hexL x).drop 16).take 4) ++ [45]) ++ (hexL x).drop 20 = utext x := by
  match x, hx with
  | [a0, a1, a2, a3, a4, a5, a6, a7, a8, a9, a10, a11, a12, a13, a14, a15], _ => rfl
set_option maxRecDepth 100000 in
theorem specText_ok (a1 : Option Addr) (x : List UInt8) (c1 : Nat) (w : World) (h1 : Rd w a1 x) (hx : x.length = 16) :
    Calls Try.prog 18 #[.slice a1 16 c1] w fun e w' => e = .returned (str (utext x)) ∧ Below w.heap.size w w' := by
  have hw := write_ok a1 x c1 d16 32 w h1 (by omega) (by omega) (by decide) (by decide) (by decide)
  have hh := writ_hex x
  rw [hx] at hw hh
  rw [show 2 * 16 = 32 from rfl] at hh
  rw [hh] at hw
  have HW := Lib.hid hw
  have HP := Lib.hid (utext_parts x hx)
  have LH := Lib.hid (show (hexL x).length = 32 by rw [hexL_length, hx])
  clear hw hh hx
  generalize hexL x = h at *
  go_enter Try.func18, Try.ntmps18
  go_wp2_with (go_at_call 34; refine HW.out.mono ?_)
  rintro e w2 ⟨rfl, hb2⟩
  go_wp2_with fail
  refine region_plan (fun w' => Below w2.heap.size w2 w') [(0, 0), (1, 0), (2, 0), (3, 0), (4, 0), (5, 0), (6, 0), (7, 0), (8, 0), (9, 0), (10, 0), (11, 0), (12, 0), (13, 0), (14, 0), (15, 0), (16, 0), (17, 0), (18, 0)] rfl (by kernel_rfl) (by kernel_rfl) rfl (by intro c a d v w h; cases d <;> exact h) (fun _ _ h => h) ?_
  intro w3 hpW hb3
  clear hpW
  simp only [planOps, List.filterMap_cons, List.filterMap_nil, List.getElem?_cons_succ, List.getElem?_cons_zero, Option.map_some]
  repeat (first | (refine plan_still rfl (still_str_to (p := h) rfl Try.underlying9 rfl 8 rfl (by rw [LH.out]; decide)) ?_) | (refine plan_still rfl (still_str_ij (p := h) rfl Try.underlying9 rfl 8 12 rfl rfl (by decide) (by rw [LH.out]; decide)) ?_) | (refine plan_still rfl (still_str_ij (p := h) rfl Try.underlying9 rfl 12 16 rfl rfl (by decide) (by rw [LH.out]; decide)) ?_) | (refine plan_still rfl (still_str_ij (p := h) rfl Try.underlying9 rfl 16 20 rfl rfl (by decide) (by rw [LH.out]; decide)) ?_) | (refine plan_still rfl (still_str_from (p := h) rfl Try.underlying9 rfl 20 rfl (by rw [LH.out]; decide)) ?_) | (refine plan_still rfl (still_str_add (q := [45]) rfl rfl rfl (by simp [LH.out])) ?_) | (refine plan_still rfl (still_str_add rfl rfl rfl (by simp [LH.out])) ?_) | (refine plan_skip rfl ?_) | (refine plan_still (v := ?_) rfl (fun w' hS => ?_) ?_; rotate_left; (focus (go_simp; first | done | with_reducible rfl))); simp only [Act.put, List.setIfInBounds_toArray, List.set_cons_zero, List.set_cons_succ])
  refine plan_nil ?_
  go_wp2
  go_ret
  exact ⟨congrArg (fun l => Ending.returned (str l)) (by have := HP.out; simpa only [List.append_assoc, List.cons_append, List.nil_append] using this), hb2.trans (hb3.mono hb2.size)⟩
set_option maxRecDepth 100000 in
theorem uuidText_main (a1 : Option Addr) (x : List UInt8) (c1 : Nat) (w : World) (h1 : Rd w a1 x) (hx : x.length = 16) :
    Calls Try.prog 5 #[.slice a1 16 c1] w fun e w' => e = .returned (.bool true) ∧ Below w.heap.size w w' := by
  have L := Lib.hid hx
  have hsz : (⟨(utext x).toArray⟩ : ByteArray).size = 36 := by rw [← utext_length x hx]; rfl
  have hadd : (⟨#[117, 114, 110, 58, 117, 117, 105, 100, 58]⟩ : ByteArray) ++ ⟨(utext x).toArray⟩ = ⟨(urnL ++ utext x).toArray⟩ := bytes_add urnL (utext x)
  have ht := specText_ok
  have hu := uuidText_ok a1 x c1
  generalize hU : utext x = U at *
  generalize hV : urnL ++ U = V at *
  have HU := Lib.hid hU
  have HV := Lib.hid hV
  clear hx hU hV ht
  have HUU := Lib.hid hu
  clear hu
  go_enter Try.func5, Try.ntmps5
  go_wp2_with (first | (go_at_call 17; refine (uuidText_ok a1 x c1 _ h1 L.out).mono ?_; rw [HU.out, HV.out]; rintro e w2 ⟨rfl, hb2⟩; unfold str) | (go_at_call 18; refine (specText_ok a1 x c1 _ (h1.kept hb2) L.out).mono ?_; rw [HU.out]; rintro e w3 ⟨rfl, hb3⟩; unfold str))
  go_ret
  exact ⟨rfl, hb2.trans (hb3.mono hb2.size)⟩
set_option maxRecDepth 100000 in
theorem uuidText_walk (a0 : Option Addr) (x0 : List UInt8) (c0 : Nat) (w : World) (h0 : Rd w a0 x0) (_ : x0.length ≤ c0) (_ : c0 ≤ 9223372036854775807) :
    Calls Try.prog 5 #[.slice a0 x0.length c0] w fun e w' => e = .returned (.bool true) ∧ Below w.heap.size w w' := by
  have hb := Below.refl w.heap.size w
  have hl := h0.1
  by_cases hlen : x0.length = 16
  · rw [hlen]
    exact uuidText_main a0 x0 c0 w h0 hlen
  · have hne : ((x0.length : Int) != 16) = true := by rw [bne_iff_ne]; omega
    clear h0 hlen
    generalize x0.length = n at *
    by_cases hbig : 2147483647 < n
    · go_enter Try.func5, Try.ntmps5
      go_wp2
      go_ret
      exact ⟨rfl, hb⟩
    · go_enter Try.func5, Try.ntmps5
      go_wp2_with (first | (go_at_call 17; refine (uuidText_bad a0 n c0 _ hne).mono ?_; rintro e w2 ⟨rfl, hb2⟩) | (go_at_call 12; refine (known_ok _).mono ?_; rintro e w3 ⟨rfl, hb3⟩))
      go_ret
      exact ⟨rfl, hb2.trans (hb3.mono hb2.size)⟩
end Go.Proofs.Ytbnkbgbgdolihaa
