/- Order: bytes.Compare, and numbers, their bytes and their digits in one order. -/
import Derived.Test.YtbacbgicfomkbaaWrite
import Derived.Test.YtbacbgicfomkbaaDraw
import Derived.Lib.Bytealg
import Derived.Laws.Externs
namespace Go.Proofs.Ytbacbgicfomkbaa
open Go.RowKit

theorem cmpL_lib : ∀ (x y : List UInt8), cmpL x y = Lib.compareBytes x y
  | [], [] => rfl
  | [], _ :: _ => rfl
  | _ :: _, [] => rfl
  | a :: u, b :: v => by
    unfold cmpL Lib.compareBytes
    by_cases h : a = b
    · subst h
      rw [if_pos rfl, if_neg (UInt8.lt_irrefl a), if_neg (UInt8.lt_irrefl a), cmpL_lib u v]
    · rw [if_neg h]
      by_cases hl : a < b
      · rw [if_pos hl, if_pos hl]
      · have : b < a := UInt8.lt_of_le_of_ne (UInt8.not_lt.1 hl) (fun e => h e.symm)
        rw [if_neg hl, if_neg hl, if_pos this]

theorem run_loadBytes {P : Program} {w : World} {b : Nat} : ∀ (bs : List UInt8) (off : Nat) (acc : ByteArray), (∀ i, i < bs.length → w.cell? ⟨b, off + i, none⟩ = some (.int .u8 (B bs i))) →
    (Extern.Bytes.loadBytes ⟨b, off, none⟩ bs.length acc).run P w = .ok ⟨acc.data ++ bs.toArray⟩ w
  | [], _, acc, _ => by simp [Extern.Bytes.loadBytes]
  | x :: bs, off, acc, h => by
    have h0 : w.cell? ⟨b, off, none⟩ = some (.int .u8 (x.toNat : Int)) := by
      have := h 0 (by simp)
      simpa [B] using this
    have ih := run_loadBytes (P := P) (w := w) (b := b) bs (off + 1) (acc.push x) (by
      intro i hi
      have := h (i + 1) (by simpa using hi)
      rw [show off + 1 + i = off + (i + 1) by omega, this]
      simp [B])
    rw [List.length_cons, Extern.Bytes.loadBytes, Sem.run_bind]
    have hl : (load ⟨b, off, none⟩).run P w = .ok (.int .u8 (x.toNat : Int)) w := by simp [load, Sem.run, h0]
    rw [hl]
    simp only [Result.andThen_ok]
    rw [Addr.add_mid]
    simp only [Int.toNat_natCast, Nat.toUInt8_eq, UInt8.ofNat_toNat]
    rw [ih]
    simp [ByteArray.push]
theorem run_bytesOf {P : Program} {w : World} {a : Option Addr} {bs : List UInt8} {c : Nat} (h : Rd w a bs) : (Extern.Bytes.bytesOf (.slice a bs.length c)).run P w = .ok ⟨bs.toArray⟩ w := by
  rcases h.2 with rfl | ⟨b, off, rfl, hc⟩
  · cases a <;> rfl
  · have := run_loadBytes (P := P) bs off .empty hc
    simp only [Extern.Bytes.bytesOf, this]
    simp [ByteArray.empty, ByteArray.emptyWithCapacity]
    rfl

section
variable {P : Program} {ops : Array Oper} {rest : List Oper} {o : Oper} {a : Act} {w : World} {Q : Exit → Act → World → Prop}
/-- An operation whose guard holds. -/
theorem wpList_wanted (hw : Region.wanted o (yielded ops a.tmps) = true) (h : ∀ K : Act → World → Prop, (∀ a w, wpList P ops Q rest a w → K a w) → o.wp P a w K Q) : wpList P ops Q (o :: rest) a w :=
  wpList_step fun K hK => by rw [if_pos hw]; exact h K hK
/-- '[]byte(s)'. -/
theorem wp_of_string (hgd : Region.wanted o (yielded ops a.tmps) = true) {src dst e : TypeId} {x : Operand} (ho : o.op = .convert src dst x) (hs : P.underlying src = some .string) (hd : P.underlying dst = some (.slice e)) (he : P.underlying e = some (.int .u8))
    {bs : List UInt8} (hx : a.eval x = .string ⟨bs.toArray⟩) {n : Nat} (hn : bs.length = n) (hm : n ≤ 9223372036854775807)
    (h : ∀ g cap w', Rd w' (some ⟨g, 0, none⟩) bs → w.heap.size ≤ g → Below w.heap.size w w' → wpList P ops Q rest (a.put o.dst (.slice (some ⟨g, 0, none⟩) n cap)) w') : wpList P ops Q (o :: rest) a w := by
  subst hn
  refine wpList_wanted hgd fun K hK => ?_
  have hrun := run_bytes_of_string (P := P) w src dst e ⟨bs.toArray⟩ hs hd he
  unfold Oper.wp execOp
  simp only [ho, hx, Sem.run_bind, hrun, Result.andThen_ok]
  refine hK _ _ ?_
  have key : ∀ cap, Rd (w.drew.alloc (.cells (bytesRow ⟨bs.toArray⟩ cap) e ((bytesRow ⟨bs.toArray⟩ cap).size, (bytesRow ⟨bs.toArray⟩ cap).size + 1))) (some ⟨w.heap.size, 0, none⟩) bs := by
    intro cap
    refine ⟨hm, .inr ⟨_, 0, rfl, fun i hi => ?_⟩⟩
    rw [Nat.zero_add]
    have hc := World.cell?_alloc_mark w.drew (bytesRow ⟨bs.toArray⟩ cap) e ((bytesRow ⟨bs.toArray⟩ cap).size, (bytesRow ⟨bs.toArray⟩ cap).size + 1) i
    have hr := bytesRow_at ⟨bs.toArray⟩ cap i (by simpa using hi)
    refine Eq.trans hc (hr.trans ?_)
    simp [B, hi]
  have hb : ∀ ob, Below w.heap.size w (w.drew.alloc ob) := fun ob => (Below.mk rfl rfl rfl (Nat.le_refl _) (fun _ _ => rfl) : Below w.heap.size w w.drew).alloc (Nat.le_refl _) ob
  exact h w.heap.size (grownCap w (⟨bs.toArray⟩ : ByteArray).size 0 e) _ (key (grownCap w (⟨bs.toArray⟩ : ByteArray).size 0 e)) (Nat.le_refl _) (hb _)
end

theorem bytesCompare_any (a1 a2 : Option Addr) (x y : List UInt8) (c1 c2 : Nat) (w : World) (h1 : Rd w a1 x) (h2 : Rd w a2 y) :
    Calls Try.prog 56 #[.slice a1 x.length c1, .slice a2 y.length c2] w fun e w' => e = .returned (.int .i64 (cmpL x y)) ∧ w = w' := by
  have hf : (callFunc 73 #[.slice a1 x.length c1, .slice a2 y.length c2]).run Try.prog w = .ok (.value (.int .i64 (cmpL x y))) w := by
    rw [run_callFunc_extern (e := Extern.BytealgCompare.compare) Try.func73 (by kernel_rfl) (by kernel_rfl) (by kernel_rfl) (by kernel_rfl)]
    have : (Extern.BytealgCompare.compare #[.slice a1 x.length c1, .slice a2 y.length c2]).run Try.prog w = .ok (.int .i64 (cmpL x y)) w := by
      change Sem.run Try.prog (do pure (goInt (Extern.BytealgCompare.cmp (← Extern.Bytes.bytesOf (.slice a1 x.length c1)) (← Extern.Bytes.bytesOf (.slice a2 y.length c2))))) w = _
      simp only [Sem.run_bind, run_bytesOf h1, run_bytesOf h2, Result.andThen_ok, Sem.run_pure, Lib.cmp_eq, cmpL_lib]
      rfl
    rw [this]
    rfl
  go_enter Try.func56, Try.ntmps56
  go_wp2
  go_ret
  exact ⟨rfl, rfl⟩
theorem bytesCompare_at {a1 a2 : Option Addr} {n1 n2 c1 c2 : Nat} (x y : List UInt8) {w : World} (h1 : Rd w a1 x) (h2 : Rd w a2 y) (e1 : x.length = n1) (e2 : y.length = n2) :
    Calls Try.prog 56 #[.slice a1 n1 c1, .slice a2 n2 c2] w fun e w' => e = .returned (.int .i64 (cmpL x y)) ∧ w = w' := by
  subst e1 e2; exact bytesCompare_any a1 a2 x y c1 c2 w h1 h2

/-! Numbers, bytes and digits. -/
theorem signI_cmpL : ∀ (x y : List UInt8), signI (cmpL x y) = cmpL x y
  | [], [] => rfl
  | [], _ :: _ => rfl
  | _ :: _, [] => rfl
  | a :: u, b :: v => by
    unfold cmpL
    split
    · exact signI_cmpL u v
    · split <;> rfl
theorem writ_succ (dl : List UInt8) (n N : Nat) : writ dl (n + 1) N = dl.getD (N / dl.length ^ n % dl.length) 0 :: writ dl n N := by
  unfold writ
  rw [List.range_succ_eq_map, List.map_cons, List.map_map]
  congr 1
  apply List.map_congr_left
  intro i hi
  have := List.mem_range.1 hi
  simp only [Function.comp]
  rw [show n + 1 - 1 - (i + 1) = n - 1 - i by omega]
def Mono (dl : List UInt8) : Prop := ∀ i j, i < j → j < dl.length → dl.getD i 0 < dl.getD j 0
theorem cmp_writ (dl : List UInt8) (h0 : 0 < dl.length) (hm : Mono dl) : ∀ (n N M : Nat), cmpL (writ dl n N) (writ dl n M) = signI (((N % dl.length ^ n : Nat) : Int) - ((M % dl.length ^ n : Nat) : Int))
  | 0, N, M => by simp [writ, cmpL, signI, Nat.mod_one]
  | n + 1, N, M => by
    have ih := cmp_writ dl h0 hm n N M
    rw [writ_succ, writ_succ, cmpL]
    have e : ∀ N, N % dl.length ^ (n + 1) = N / dl.length ^ n % dl.length * dl.length ^ n + N % dl.length ^ n := by
      intro N
      rw [Nat.pow_succ, Nat.mod_mul, Nat.add_comm, Nat.mul_comm]
    rw [e N, e M]
    have hN : N / dl.length ^ n % dl.length < dl.length := Nat.mod_lt _ h0
    have hM : M / dl.length ^ n % dl.length < dl.length := Nat.mod_lt _ h0
    have hp : 0 < dl.length ^ n := Nat.pow_pos h0
    have hNr : N % dl.length ^ n < dl.length ^ n := Nat.mod_lt _ hp
    have hMr : M % dl.length ^ n < dl.length ^ n := Nat.mod_lt _ hp
    generalize N / dl.length ^ n % dl.length = p at *
    generalize M / dl.length ^ n % dl.length = q at *
    generalize N % dl.length ^ n = r at *
    generalize M % dl.length ^ n = s at *
    generalize dl.length ^ n = D at *
    rcases Nat.lt_trichotomy p q with h | h | h
    · have h1 := hm p q h hM
      have h2 : p * D + D ≤ q * D := by rw [← Nat.succ_mul]; exact Nat.mul_le_mul_right _ h
      rw [if_neg (fun e => by rw [e] at h1; exact UInt8.lt_irrefl _ h1), if_pos h1, signI, if_pos (by omega)]
    · subst h
      rw [if_pos rfl, ih]
      congr 1
      omega
    · have h1 := hm q p h hN
      have h2 : q * D + D ≤ p * D := by rw [← Nat.succ_mul]; exact Nat.mul_le_mul_right _ h
      have h3 : ¬ dl.getD p 0 < dl.getD q 0 := fun h => UInt8.lt_irrefl _ (UInt8.lt_trans h h1)
      rw [if_neg (fun e => by rw [e] at h1; exact UInt8.lt_irrefl _ h1), if_neg h3, signI, if_neg (by omega), if_pos (by omega)]
/-- All bytes. -/
def dall : List UInt8 := (List.range 256).map UInt8.ofNat
theorem dall_length : dall.length = 256 := by simp [dall]
theorem dall_at (i : Nat) (h : i < 256) : dall.getD i 0 = UInt8.ofNat i := by simp [dall, h]
theorem dall_mono : Mono dall := by
  intro i j h1 h2
  have h3 : j < 256 := by rw [dall_length] at h2; exact h2
  rw [dall_at i (by omega), dall_at j h3, UInt8.lt_iff_toNat_lt]
  simp only [UInt8.toNat_ofNat']
  omega
theorem writ_dall (bs : List UInt8) : writ dall bs.length (num bs) = bs := by
  have h := be_num bs
  conv => rhs; rw [← h]
  apply List.ext_getElem?
  intro i
  by_cases hi : i < bs.length
  · have e : B (writ dall bs.length (num bs)) i = B (be bs.length (num bs)) i := by
      rw [B_writ _ _ _ _ hi, B_be _ _ _ hi, dall_length, dall_at _ (Nat.mod_lt _ (by decide))]
      simp
    have l1 := writ_length dall bs.length (num bs)
    have l2 := be_length bs.length (num bs)
    rw [List.getElem?_eq_getElem (by omega), List.getElem?_eq_getElem (by omega)]
    congr 1
    apply UInt8.toNat_inj.1
    simpa [B, l1, l2, hi] using e
  · rw [List.getElem?_eq_none (by rw [writ_length]; omega), List.getElem?_eq_none (by rw [be_length]; omega)]
/-- Texts are in the order of the bytes. -/
theorem cmp_text (dl : List UInt8) (h0 : 0 < dl.length) (hm : Mono dl) (n : Nat) (x y : List UInt8) (hxy : x.length = y.length) (hn : 256 ^ x.length ≤ dl.length ^ n) :
    cmpL (writ dl n (num x)) (writ dl n (num y)) = cmpL x y := by
  have h1 := num_lt x
  have h2 := num_lt y
  rw [← hxy] at h2
  have e := cmp_writ dall (by rw [dall_length]; decide) dall_mono x.length (num x) (num y)
  rw [writ_dall, dall_length, hxy, writ_dall, ← hxy] at e
  rw [cmp_writ dl h0 hm, e, Nat.mod_eq_of_lt (Nat.lt_of_lt_of_le h1 hn), Nat.mod_eq_of_lt (Nat.lt_of_lt_of_le h2 hn), Nat.mod_eq_of_lt h1, Nat.mod_eq_of_lt h2]
end Go.Proofs.Ytbacbgicfomkbaa
