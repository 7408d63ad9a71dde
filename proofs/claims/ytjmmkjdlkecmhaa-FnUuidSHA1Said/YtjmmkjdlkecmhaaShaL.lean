/- SHA-1, plainly: what a round, a block, and whole blocks make of five words. -/
import Derived.Test.YtjmmkjdlkecmhaaShaDo
namespace Go.Proofs.Ytjmmkjdlkecmhaa
open Go.RowKit
/-- The five words of a round, and the sixteen that it draws on. -/
structure St where
  a : Int
  b : Int
  c : Int
  d : Int
  e : Int
  W : List Int
def wAt (W : List Int) (j : Nat) : Int := W.getD j 0
def fA (b c d : Int) : Int := uOr (uAnd b c) (uAnd (uNot b) d)
def fB (b c d : Int) : Int := uXor (uXor b c) d
def fC (b c d : Int) : Int := uOr (uAnd (uOr b c) d) (uAnd b c)
def mixW (i : Nat) (W : List Int) : Int := uXor (uXor (uXor (wAt W ((i - 3) % 16)) (wAt W ((i - 8) % 16))) (wAt W ((i - 14) % 16))) (wAt W (i % 16))
def sch (i : Nat) (s : St) : St := { s with W := s.W.set (i % 16) (rot1 (mixW i s.W)) }
def stp (f : Int → Int → Int → Int) (K : Int) (i : Nat) (s : St) : St :=
  ⟨uAdd (uAdd (uAdd (uAdd (rot5 s.a) (f s.b s.c s.d)) s.e) (wAt s.W (i % 16))) K, s.a, rot30 s.b, s.c, s.d, s.W⟩
def rd1 (f : Int → Int → Int → Int) (K : Int) (i : Nat) (s : St) : St := stp f K i (sch i s)
def itR (g : Nat → St → St) (lo : Nat) : Nat → St → St
  | 0, s => s
  | n + 1, s => g (lo + n) (itR g lo n s)
/-- The state between blocks. -/
structure Hs where
  a : Int
  b : Int
  c : Int
  d : Int
  e : Int
def ldW (p : List UInt8) (i : Nat) : Int := uOr (uOr (uOr (uShl24 (uOf (B p (4 * i) : Nat))) (uShl16 (uOf (B p (4 * i + 1) : Nat)))) (uShl8 (uOf (B p (4 * i + 2) : Nat)))) (uOf (B p (4 * i + 3) : Nat))
def ldWs (p : List UInt8) : List Int := (List.range 16).map (ldW p)
def rounds80 (s0 : St) : St :=
  itR (rd1 fB 3395469782) 60 20 (itR (rd1 fC 2400959708) 40 20 (itR (rd1 fB 1859775393) 20 20 (itR (rd1 fA 1518500249) 16 4 (itR (stp fA 1518500249) 0 16 s0))))
def blk (h : Hs) (p : List UInt8) : Hs :=
  let s := rounds80 ⟨h.a, h.b, h.c, h.d, h.e, ldWs p⟩
  ⟨uAdd h.a s.a, uAdd h.b s.b, uAdd h.c s.c, uAdd h.d s.d, uAdd h.e s.e⟩
def blks : Nat → Hs → List UInt8 → Hs
  | 0, h, _ => h
  | n + 1, h, p => blks n (blk h (p.take 64)) (p.drop 64)
end Go.Proofs.Ytjmmkjdlkecmhaa
