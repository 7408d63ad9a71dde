/- Contracts of the thin package's UuidRead and UuidValid; the reference's UuidText of noughts. -/
import Derived.Test.YtdjppileeeljnaaDoorUuidVal
import Derived.Test.YtdjppileeeljnaaDoorSpecText
namespace Go.Proofs.YtdjppileeeljnaaDoor
open Go.RowKit
set_option linter.unusedVariables false
set_option linter.unusedSimpArgs false

theorem OwnB.down {w : World} {base base' e : Nat} {v : Value} {xs : List UInt8} (h : OwnB w base e v xs) (hle : base' ≤ base) : OwnB w base' e v xs :=
  ⟨h.1, h.2.imp id fun ⟨g, cap, cur, h1, h2, h3⟩ => ⟨g, cap, cur, h1, Nat.le_trans hle h2, h3⟩⟩
set_option maxRecDepth 100000 in
theorem uuidRead_bad (s : ByteArray) (w : World) (h : Calls Tryd.prog 14 #[.string s] w fun e w' => (∃ cs u x, Sixteen cs ∧ e = .returned (.tuple #[.agg cs.toArray, .iface u x])) ∧ Below w.heap.size w w') :
    Calls Tryd.prog 6 #[.string s] w fun e w' => e = .returned (.tuple #[.slice none 0 0, .bool false]) ∧ Below w.heap.size w w' := by
  have HH := Lib.hid h
  clear h
  go_enter Tryd.func6, Tryd.ntmps6
  go_wp2_with (go_at_call 14; refine HH.out.mono ?_)
  rintro e w2 ⟨⟨cs, u, x, hcs, rfl⟩, hb2⟩
  go_wp2_with (refine wp_alloc_blk uuArr hb2 rfl rfl rfl hb2.size ?_)
  intro w3 b3 g3 s3 hb3
  clear s3
  have L := Lib.hid hcs.1
  go_wp2_with (refine wp_store_blk uuArr hb3 rfl rfl rfl rfl b3 hb2.size rfl L.out hcs.2 ?_)
  intro w4 b4 g4 s4 hb4
  clear s4
  go_wp2
  exact ret_tmp2 rfl rfl rfl rfl ⟨rfl, hb4⟩
set_option maxRecDepth 100000 in
theorem uuidRead_good (s : ByteArray) (y : List UInt8) (hy : y.length = 16) (w : World) (h : Calls Tryd.prog 14 #[.string s] w fun e w' => e = .returned (.tuple #[.agg (bvs y).toArray, .nilIface]) ∧ Below w.heap.size w w') :
    Calls Tryd.prog 6 #[.string s] w fun e w' => ∃ r, e = .returned (.tuple #[r, .bool true]) ∧ OwnB w' w.heap.size 5 r y ∧ Below w.heap.size w w' := by
  have HH := Lib.hid h
  have L := Lib.hid hy
  have L16 := Lib.hid (show (bvs y).length = 16 by rw [bvs_length, hy])
  clear h hy
  go_enter Tryd.func6, Tryd.ntmps6
  go_wp2_with (go_at_call 14; refine HH.out.mono ?_)
  rintro e w2 ⟨rfl, hb2⟩
  go_wp2_with (refine wp_alloc_blk uuArr hb2 rfl rfl rfl hb2.size ?_)
  intro w3 b3 g3 s3 hb3
  clear s3
  go_wp2_with (refine wp_store_blk uuArr hb3 rfl rfl rfl rfl b3 hb2.size rfl L16.out (bvs_one _) ?_)
  intro w4 b4 g4 s4 hb4
  clear s4
  go_wp2_with (first | (refine wp_load_blk uuArr rfl rfl rfl b4 L16.out ?_) | (go_at_call 15; refine (bytesOf_ok y _ L.out).mono ?_))
  rintro e w5 ⟨v5, rfl, o5, hb5⟩
  have hb5' := hb4.trans (hb5.mono hb4.size)
  go_wp2
  exact ret_tmp2 rfl rfl rfl rfl ⟨_, rfl, o5.down hb4.size, hb5'⟩
theorem uuidValid_good (s : ByteArray) (w : World) (h : Calls Tryd.prog 16 #[.string s] w fun e w' => e = .returned .nilIface ∧ Below w.heap.size w w') :
    Calls Tryd.prog 7 #[.string s] w fun e w' => e = .returned (.bool true) ∧ Below w.heap.size w w' := by
  have HH := Lib.hid h
  clear h
  go_enter Tryd.func7, Tryd.ntmps7
  go_wp2_with (go_at_call 16; refine HH.out.mono ?_)
  rintro e w2 ⟨rfl, hb2⟩
  go_wp2
  go_ret
  exact ⟨rfl, hb2⟩
theorem uuidValid_bad (s : ByteArray) (w : World) (h : Calls Tryd.prog 16 #[.string s] w fun e w' => (∃ u x, e = .returned (.iface u x)) ∧ Below w.heap.size w w') :
    Calls Tryd.prog 7 #[.string s] w fun e w' => e = .returned (.bool false) ∧ Below w.heap.size w w' := by
  have HH := Lib.hid h
  clear h
  go_enter Tryd.func7, Tryd.ntmps7
  go_wp2_with (go_at_call 16; refine HH.out.mono ?_)
  rintro e w2 ⟨⟨u, x, rfl⟩, hb2⟩
  go_wp2
  go_ret
  exact ⟨rfl, hb2⟩
/-- The text of noughts is valid. -/
theorem valid_zero (w : World) (hT : XTab w) : Calls Tryd.prog 7 #[str (utext (List.replicate 16 0))] w fun e w' => e = .returned (.bool true) ∧ Below w.heap.size w w' :=
  uuidValid_good _ w ((val36 (utext (List.replicate 16 0)) rfl w hT).mono fun _ _ h => ⟨h.1.1 (std_text rfl).1, h.2⟩)
end Go.Proofs.YtdjppileeeljnaaDoor
