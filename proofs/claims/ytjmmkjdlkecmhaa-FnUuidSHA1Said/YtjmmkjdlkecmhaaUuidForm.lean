/- Contracts: the reference's Form, and the thin package's bytesOf. -/
import Derived.Test.YtjmmkjdlkecmhaaUuid
import Derived.Test.YtjmmkjdlkecmhaaMore
namespace Go.Proofs.Ytjmmkjdlkecmhaa
open Go.RowKit

/-- A UUID's bytes with a version, and with the variant of RFC 4122. -/
def formL (x : List UInt8) (v : Nat) : List UInt8 := ((x.take 16).set 6 (UInt8.ofNat (B x 6 % 16 + 16 * v))).set 8 (UInt8.ofNat (B x 8 % 64 + 128))
theorem formL_length (x : List UInt8) (v : Nat) (h : 16 ≤ x.length) : (formL x v).length = 16 := by simp [formL]; omega
theorem bvs_set (l : List UInt8) (i b : Nat) (hb : b < 256) : (bvs l).set i (.int .u8 (b : Int)) = bvs (l.set i (UInt8.ofNat b)) := by
  unfold bvs
  rw [List.map_set]
  congr 1
  unfold bv
  simp
  omega

set_option maxRecDepth 100000 in
theorem bytesOf_ok (x : List UInt8) (w : World) (hx : x.length = 16) :
    Calls Try.prog 13 #[.agg (bvs x).toArray] w fun e w' => ∃ v, e = .returned v ∧ OwnB w' w.heap.size 5 v x ∧ Below w.heap.size w w' := by
  have hb := Below.refl w.heap.size w
  have L := Lib.hid hx
  clear hx
  go_enter Try.func13, Try.ntmps13
  go_wp2_with (refine wp_box_blk uuArr hb rfl rfl rfl rfl (Nat.le_refl _) ?_)
  intro w1 b1 g1 s1 hb1
  clear s1
  have o1 : OwnB (w1.alloc (.cells #[] 5)) w.heap.size 5 (.slice (some ⟨w1.heap.size, 0, none⟩) 0 0) [] := OwnB.empty w1 w.heap.size 5 hb1.size
  have hb2 := hb1.alloc hb1.size (.cells #[] 5)
  have r2 := (b1.kept (below_grown (World.grownBy_alloc w1 (.cells #[] 5) none))).rd (by rw [L.out]; decide)
  go_wp2_with (at_builtin; refine wp_append_rd rfl rfl Try.underlying22 info5 rfl rfl rfl o1 r2 L.out (by rw [L.out]; decide) hb2.size ?_)
  intro v3 w3 o3 g3
  have hb3 := hb2.grown g3 hb2.size (fun k hk => (o1.lt k hk).1)
  go_wp2
  go_ret
  exact ⟨_, rfl, o3, hb3⟩
end Go.Proofs.Ytjmmkjdlkecmhaa
