/- Worlds that differ in some blocks alone. -/
import Derived.Test.YtbacbgicfomkbaaAbsDo
namespace Go.Proofs.Ytbacbgicfomkbaa
open Go.RowKit
/-- New blocks, and the blocks of S written; no other one. -/
structure Sets (w w' : World) (S : List Nat) : Prop where
  os : w'.os = w.os
  tape : w'.tape = w.tape
  output : w'.output = w.output
  size : w.heap.size ≤ w'.heap.size
  block : ∀ k, k < w.heap.size → k ∉ S → w'.heap[k]? = w.heap[k]?
theorem Sets.refl (w : World) (S : List Nat) : Sets w w S := ⟨rfl, rfl, rfl, Nat.le_refl _, fun _ _ _ => rfl⟩
theorem Sets.trans {w w1 w2 : World} {S : List Nat} (h1 : Sets w w1 S) (h2 : Sets w1 w2 S) : Sets w w2 S :=
  ⟨h2.os.trans h1.os, h2.tape.trans h1.tape, h2.output.trans h1.output, Nat.le_trans h1.size h2.size, fun k hk hn => (h2.block k (Nat.lt_of_lt_of_le hk h1.size) hn).trans (h1.block k hk hn)⟩
theorem Sets.mono {w w' : World} {S S' : List Nat} (h : Sets w w' S) (hs : ∀ k ∈ S, k ∈ S') : Sets w w' S' := ⟨h.os, h.tape, h.output, h.size, fun k hk hn => h.block k hk fun e => hn (hs k e)⟩
theorem sets_grown {w w' : World} {g : Nat} (h : w.grownBy w' (some g)) : Sets w w' [g] := ⟨h.os, h.tape, h.output, h.size, fun k hk hn => h.block k hk (fun e => hn (by cases e; exact List.mem_singleton.2 rfl))⟩
theorem sets_none {w w' : World} (h : w.grownBy w' none) (S : List Nat) : Sets w w' S := ⟨h.os, h.tape, h.output, h.size, fun k hk _ => h.block k hk (by simp)⟩
theorem sets_below {w w' : World} (h : Below w.heap.size w w') (S : List Nat) : Sets w w' S := ⟨h.os, h.tape, h.output, h.size, fun k hk _ => h.block k hk⟩
/-- A step of blocks that are not older than the first world. -/
theorem Sets.new {w w1 w2 : World} {S S' : List Nat} (h1 : Sets w w1 S) (h2 : Sets w1 w2 S') (hs : ∀ k ∈ S', k ∈ S ∨ w.heap.size ≤ k) : Sets w w2 S :=
  ⟨h2.os.trans h1.os, h2.tape.trans h1.tape, h2.output.trans h1.output, Nat.le_trans h1.size h2.size, fun k hk hn => (h2.block k (Nat.lt_of_lt_of_le hk h1.size) (fun e => (hs k e).elim hn (fun h => by omega))).trans (h1.block k hk hn)⟩
theorem Blk.sets {w w' : World} {g : Nat} {cs : List Value} {t : TypeId} {S : List Nat} (h : Blk w g cs t) (hs : Sets w w' S) (hn : g ∉ S) : Blk w' g cs t := (hs.block g h.lt hn).trans h
theorem Rd.sets {w w' : World} {a : Option Addr} {bs : List UInt8} {S : List Nat} (h : Rd w a bs) (hs : Sets w w' S) (hn : ∀ q, a = some q → q.block ∉ S) : Rd w' a bs := by
  refine ⟨h.1, ?_⟩
  rcases h.2 with h0 | ⟨b, off, rfl, hc⟩
  · exact .inl h0
  · refine .inr ⟨b, off, rfl, fun i hi => ?_⟩
    have := hc i hi
    have hb : b < w.heap.size := World.block_lt_of_cell? w _ this
    rw [← this]
    have e := hs.block b hb (hn _ rfl)
    unfold World.cell?
    simp only [e]
theorem Sets.below {w0 w w' : World} {B0 : Nat} {S : List Nat} (h : Sets w w' S) (hb : Below B0 w0 w) (hB : B0 ≤ w.heap.size) (hS : ∀ k ∈ S, B0 ≤ k) : Below B0 w0 w' :=
  ⟨h.os.trans hb.os, h.tape.trans hb.tape, h.output.trans hb.output, Nat.le_trans hb.size h.size, fun k hk => (h.block k (by omega) (fun e => by have := hS k e; omega)).trans (hb.block k hk)⟩
end Go.Proofs.Ytbacbgicfomkbaa
