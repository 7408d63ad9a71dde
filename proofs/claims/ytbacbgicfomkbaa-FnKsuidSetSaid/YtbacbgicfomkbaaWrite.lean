/- Text: strings of bytes, and the reference's Write. -/
import Derived.Test.YtbacbgicfomkbaaSpec
import Derived.Laws.IdiomStrings
import Derived.Laws.BytesArg
namespace Go.Proofs.Ytbacbgicfomkbaa
open Go.RowKit

/-- A string of bytes, as a value. -/
def str (bs : List UInt8) : Value := .string ⟨bs.toArray⟩

theorem run_str {P : Program} {w : World} {src dst e : TypeId} {a : Option Addr} {bs : List UInt8} {cap : Nat} (hs : P.underlying src = some (.slice e)) (he : P.underlying e = some (.int .u8)) (hd : P.underlying dst = some .string) (h : Rd w a bs) :
    (convert src dst (.slice a bs.length cap)).run P w = .ok (str bs) w := by
  by_cases h0 : bs = []
  · subst h0
    cases a with
    | none => exact run_convert_bytes_nil w src e hs he _ _ dst hd
    | some ad =>
      have := run_convert_bytes_back (P := P) w src dst e ad cap [] hs he hd (by intro j hj; simp at hj)
      exact this
  · obtain ⟨ad, rfl, hc⟩ := h.src (List.length_pos_iff.2 h0)
    exact run_convert_bytes_back w src dst e ad cap bs hs he hd (fun j hj => hc j _ (by rw [bvs_get bs j hj]; simp [B, hj]))

section
variable {P : Program} {ops : Array Oper} {rest : List Oper} {o : Oper} {a : Act} {w : World} {Q : Exit → Act → World → Prop}
theorem wp_to_string (hgd : o.guard = none) {src dst e : TypeId} {x : Operand} (ho : o.op = .convert src dst x) (hs : P.underlying src = some (.slice e)) (he : P.underlying e = some (.int .u8)) (hd : P.underlying dst = some .string)
    {ad : Option Addr} {n cap : Nat} (hx : a.eval x = .slice ad n cap) {bs : List UInt8} (hr : Rd w ad bs) (hn : bs.length = n)
    (h : wpList P ops Q rest (a.put o.dst (str bs)) w) : wpList P ops Q (o :: rest) a w := by
  subst hn
  refine wpList_plain hgd fun K hK => ?_
  unfold Oper.wp execOp
  simp only [ho, hx, Sem.run_bind, run_str hs he hd hr, Result.andThen_ok]
  exact hK _ _ h
end

/-- The digits of a number, so many, the greatest first. -/
def writ (dl : List UInt8) (many n : Nat) : List UInt8 := (List.range many).map fun i => dl.getD (n / dl.length ^ (many - 1 - i) % dl.length) 0
theorem writ_length (dl : List UInt8) (many n : Nat) : (writ dl many n).length = many := by simp [writ]
theorem B_writ (dl : List UInt8) (many n i : Nat) (h : i < many) : B (writ dl many n) i = (dl.getD (n / dl.length ^ (many - 1 - i) % dl.length) 0).toNat := by
  simp [B, writ, h]

/-- What is left of the bytes of M, k of them divided by D. -/
def midW (D M L k : Nat) : List UInt8 := (be L (M / D)).take k ++ (be L M).drop k
theorem midW_length (D M L k : Nat) (h : k ≤ L) : (midW D M L k).length = L := by simp [midW, be_length]; omega
theorem midW_zero (D M L : Nat) : midW D M L 0 = be L M := by simp [midW]
theorem midW_end (D M L : Nat) : midW D M L L = be L (M / D) := by
  rw [midW, List.take_of_length_le (by rw [be_length]; exact Nat.le_refl _), List.drop_of_length_le (by rw [be_length]; exact Nat.le_refl _), List.append_nil]
theorem B_midW (D M L k : Nat) (h : k < L) : B (midW D M L k) k = B (be L M) k := by
  have h1 : ((be L (M / D)).take k).length = k := by rw [List.length_take, be_length]; omega
  unfold B midW
  rw [List.getD_eq_getElem?_getD, List.getD_eq_getElem?_getD, List.getElem?_append_right (by omega), h1, Nat.sub_self, List.getElem?_drop, Nat.add_zero]
theorem midW_set (D M L k : Nat) (h : k < L) (more : List Value) : (bvs (midW D M L k) ++ more).set k (.int .u8 (B (be L (M / D)) k)) = bvs (midW D M L (k + 1)) ++ more := by
  have hl : (bvs (midW D M L k)).length = L := by rw [bvs_length, midW_length _ _ _ _ (by omega)]
  rw [List.set_append_left _ _ (by omega)]
  congr 1
  have h1 : ((be L (M / D)).take k).length = k := by rw [List.length_take, be_length]; omega
  unfold midW
  rw [bvs_append, bvs_append, List.set_append_right _ _ (by rw [bvs_length]; omega), bvs_length, h1, Nat.sub_self]
  rw [List.take_succ_eq_append_getElem (by rw [be_length]; exact h), bvs_append, List.append_assoc]
  congr 1
  rw [List.drop_eq_getElem_cons (by rw [be_length]; exact h)]
  have hv : B (be L (M / D)) k = ((be L (M / D))[k]'(by rw [be_length]; exact h)).toNat := by simp [B, be_length, h]
  rw [hv]
  rfl

theorem write_quo (D M L k : Nat) (hD : 0 < D) (h : k < L) : ((M / 256 ^ (L - k) % D) * 256 + B (be L M) k) / D = B (be L (M / D)) k := by
  rw [B_be _ _ _ h, B_be _ _ _ h]
  have e : 256 ^ (L - k) = 256 ^ (L - 1 - k) * 256 := by rw [← Nat.pow_succ, show (L - 1 - k).succ = L - k by omega]
  rw [e, ← Nat.div_div_eq_div_mul, Nat.div_div_eq_div_mul M D, Nat.mul_comm D, ← Nat.div_div_eq_div_mul]
  generalize M / 256 ^ (L - 1 - k) = A
  have h1 : A = 256 * (D * (A / 256 / D) + A / 256 % D) + A % 256 := by rw [Nat.div_add_mod, Nat.div_add_mod]
  have h2 : A = D * (256 * (A / 256 / D)) + (256 * (A / 256 % D) + A % 256) := by
    have : D * (256 * (A / 256 / D)) = 256 * (D * (A / 256 / D)) := by rw [Nat.mul_left_comm]
    omega
  have h3 : A / D = 256 * (A / 256 / D) + (256 * (A / 256 % D) + A % 256) / D := by
    conv => lhs; rw [h2]
    rw [Nat.mul_add_div hD]
  have h4 : (256 * (A / 256 % D) + A % 256) / D < 256 := by
    have : A / 256 % D < D := Nat.mod_lt _ hD
    rw [Nat.div_lt_iff_lt_mul hD]
    have : A % 256 < 256 := Nat.mod_lt _ (by decide)
    have : 256 * (A / 256 % D) + 256 ≤ 256 * D := by omega
    omega
  rw [h3, Nat.mul_comm (A / 256 % D) 256]
  clear h1 h2 h3
  generalize (256 * (A / 256 % D) + A % 256) / D = t at *
  omega
theorem write_rem (D M L k : Nat) (h : k < L) : ((M / 256 ^ (L - k) % D) * 256 + B (be L M) k) % D = M / 256 ^ (L - (k + 1)) % D := by
  rw [B_be _ _ _ h]
  have e : 256 ^ (L - k) = 256 ^ (L - 1 - k) * 256 := by rw [← Nat.pow_succ, show (L - 1 - k).succ = L - k by omega]
  rw [e, ← Nat.div_div_eq_div_mul, show L - (k + 1) = L - 1 - k by omega]
  generalize M / 256 ^ (L - 1 - k) = A
  rw [Nat.add_mod, Nat.mod_mul_mod, ← Nat.add_mod, Nat.mul_comm, Nat.div_add_mod]

/-- The digits of N, the first j of them not written yet. -/
def writRest (dl : List UInt8) (many N j : Nat) : List Value := List.replicate j (Value.int .u8 0) ++ (bvs (writ dl many N)).drop j
theorem writRest_length (dl : List UInt8) (many N j : Nat) (h : j ≤ many) : (writRest dl many N j).length = many := by simp [writRest, bvs_length, writ_length]; omega
theorem writRest_set (dl : List UInt8) (many N j : Nat) (h : j < many) : (writRest dl many N (j + 1)).set j (.int .u8 (B (writ dl many N) j)) = writRest dl many N j := by
  unfold writRest
  have hl : j < (bvs (writ dl many N)).length := by rw [bvs_length, writ_length]; exact h
  have hv : (bvs (writ dl many N))[j] = .int .u8 (B (writ dl many N) j) := by
    have := bvs_get (writ dl many N) j (by rw [writ_length]; exact h)
    rw [List.getElem?_eq_getElem hl] at this
    exact Option.some.inj this
  rw [List.replicate_succ', List.append_assoc, List.set_append_right _ _ (by simp)]
  simp only [List.length_replicate, Nat.sub_self, List.singleton_append, List.set_cons_zero]
  rw [List.drop_eq_getElem_cons hl, hv]

/-- A slice of the call's own that is not empty: its block. -/
theorem OwnB.blk {w : World} {base e : Nat} {v : Value} {xs : List UInt8} (h : OwnB w base e v xs) {n : Nat} (hn' : xs.length = n) (h0 : 0 < n) : ∃ g cap more, v = .slice (some ⟨g, 0, none⟩) n cap ∧ Blk w g (bvs xs ++ more) e ∧ base ≤ g := by
  subst hn'
  rcases h.2 with ⟨rfl, hn⟩ | ⟨g, cap, cur, rfl, hg, hh, hnc, hm, hs, htake⟩
  · omega
  · refine ⟨g, cap, cur.toList.drop xs.length, rfl, ?_, hg⟩
    unfold Blk
    rw [Nat.mul_one] at htake
    rw [← htake, List.take_append_drop]
    exact hh
theorem be_num : ∀ (bs : List UInt8), be bs.length (num bs) = bs := by
  intro bs
  suffices h : ∀ (l : List UInt8), be l.reverse.length (num l.reverse) = l.reverse by simpa using h bs.reverse
  intro l
  induction l with
  | nil => rfl
  | cons b l ih =>
    have e : num (l.reverse ++ [b]) = num l.reverse * 256 + b.toNat := by simp [num]
    have hb := b.toNat_lt
    rw [List.reverse_cons, List.length_append, List.length_singleton, e, be]
    rw [show (num l.reverse * 256 + b.toNat) / 256 = num l.reverse by omega, ih]
    congr 2
    apply UInt8.toNat_inj.1
    simp
theorem byte_wrap (n : Nat) (h : n < 256) : IntKind.u8.wrap (n : Int) = (n : Int) := by rw [IntKind.wrap_u8]; omega

set_option maxRecDepth 100000 in
theorem write_ok (a1 : Option Addr) (x : List UInt8) (c1 : Nat) (dl : List UInt8) (many : Nat) (w : World) (h1 : Rd w a1 x) (h0 : 0 < x.length) (hx : x.length ≤ 1000) (hD : 2 ≤ dl.length) (hD' : dl.length ≤ 255) (hm : many ≤ 1000) :
    Calls Try.prog 24 #[.slice a1 x.length c1, .string ⟨dl.toArray⟩, .int .i64 many] w fun e w' => e = .returned (str (writ dl many (num x))) ∧ Below w.heap.size w w' := by
  have hb := Below.refl w.heap.size w
  have o1 := OwnB.empty w w.heap.size 5 (Nat.le_refl _)
  have hb1 := hb.alloc (Nat.le_refl _) (.cells #[] 5)
  have r1 := h1.kept hb1
  have hN := num_lt x
  have HN := Lib.hid hN
  have hbn : be x.length (num x / dl.length ^ 0) = x := by rw [Nat.pow_zero, Nat.div_one]; exact be_num x
  have HBN := Lib.hid hbn
  clear hN hbn
  generalize num x = N at *
  generalize hL : x.length = L at *
  generalize hDl : dl.length = D at *
  have HL := Lib.hid hL
  have HDl := Lib.hid hDl
  clear hL hDl
  have hds : (⟨dl.toArray⟩ : ByteArray).size = D := by rw [← HDl.out]; simp [ByteArray.size]
  go_enter Try.func24, Try.ntmps24
  go_wp2_with (at_builtin; refine wp_append_rd rfl rfl Try.underlying22 info5 rfl rfl rfl o1 r1 HL.out (by simp; rw [HL.out]; omega) (by simp) ?_)
  intro v2 w2 o2 g2
  have hb2 := hb1.grown g2 (by simp) (fun k hk => (o1.lt k hk).1)
  obtain ⟨g, cap, more, rfl, B2, hg⟩ := o2.blk HL.out h0
  clear o2 g2 o1 r1 hb1
  go_wp2_with (at_make; refine wp_make_zero rfl rfl Try.underlying22 info5 rfl rfl rfl (by omega) (by omega) ?_)
  intro w3 b3 g3 s3
  have hb3 := hb2.trans ((below_grown g3).mono hb2.size)
  have B3 := B2.grown g3 (by simp)
  have hgo : g < w2.heap.size := B2.lt
  have hgo3 : w.heap.size ≤ w2.heap.size := hb2.size
  generalize w2.heap.size = go at *
  clear s3 g3 hb2 B2
  go_wp2
  go_loopw [9] (fun i wr => ∃ j : Nat, j ≤ many ∧ i = .int .i64 ((j : Int) - 1) ∧ Blk wr g (bvs (be L (N / D ^ (many - j))) ++ more) 5 ∧ Blk wr go (writRest dl many N j) 5 ∧ Below w.heap.size w wr) (fun i _ => (intOf i + 1).toNat)
  case atStart => exact ⟨many, Nat.le_refl _, rfl, by rw [Nat.sub_self, HBN.out]; exact B3, by rw [writRest, List.drop_of_length_le (by rw [bvs_length, writ_length]; exact Nat.le_refl _), List.append_nil]; exact b3, hb3⟩
  case round =>
    obtain ⟨j, hj, rfl, hB, hW, hw⟩ := hrel
    rcases j with _ | k
    · have e0 : (((0 : Nat) : Int) - 1) = -1 := rfl
      rw [e0]
      have hW0 : Blk wr go (bvs (writ dl many N)) 5 := hW
      have rW := hW0.rd (by rw [writ_length]; omega)
      go_wp2_with (refine wp_to_string rfl rfl Try.underlying22 Try.underlying5 Try.underlying9 rfl rW (writ_length _ _ _) ?_)
      go_ret
      exact ⟨rfl, hw⟩
    · have e0 : (((k + 1 : Nat) : Int) - 1) = (k : Int) := by omega
      rw [e0]
      have hM : N / D ^ (many - (k + 1)) < 256 ^ L := Nat.lt_of_le_of_lt (Nat.div_le_self _ _) HN.out
      have hMd : N / D ^ (many - (k + 1)) / D = N / D ^ (many - k) := by rw [Nat.div_div_eq_div_mul, ← Nat.pow_succ, show (many - (k + 1)).succ = many - k by omega]
      have hdig : (dl.getD (N / D ^ (many - (k + 1)) % D) 0).toNat = B (writ dl many N) k := by rw [B_writ _ _ _ _ (by omega), HDl.out, show many - 1 - k = many - (k + 1) by omega]
      generalize N / D ^ (many - (k + 1)) = M at *
      have HM := Lib.hid hM
      have HMd := Lib.hid hMd
      have Hdig := Lib.hid hdig
      have hs := writRest_set dl many N k (by omega)
      have HS := Lib.hid hs
      clear hs hM hMd hdig e0
      go_wp2
      go_loopw [10, 26] (fun l i wi => ∃ q : Nat, q ≤ L ∧ i = .int .i64 (q : Int) ∧ l = .int .i64 ((M / 256 ^ (L - q) % D : Nat) : Int) ∧ Blk wi g (bvs (midW D M L q) ++ more) 5 ∧ Blk wi go (writRest dl many N (k + 1)) 5 ∧ Below w.heap.size w wi) (fun _ i _ => L - (intOf i).toNat)
      case atStart => exact ⟨0, Nat.zero_le _, rfl, by rw [Nat.sub_zero, Nat.div_eq_of_lt HM.out, Nat.zero_mod]; rfl, by rw [midW_zero]; exact hB, hW, hw⟩
      case round =>
        obtain ⟨q, hq, rfl, rfl, hBi, hWi, hwi⟩ := hrel
        have hl : M / 256 ^ (L - q) % D < D := Nat.mod_lt _ (by omega)
        by_cases hlt : q < L
        · have hc := hBi.cell q
          rw [List.getElem?_append_left (by rw [bvs_length, midW_length _ _ _ _ hq]; exact hlt), bvs_get _ _ (by rw [midW_length _ _ _ _ hq]; exact hlt), B_midW _ _ _ _ hlt] at hc
          have hquo := write_quo D M L q (by omega) hlt
          have hrem := write_rem D M L q hlt
          have hset := midW_set D M L q hlt more
          have hbl := B_lt (be L M) q
          have hbl2 := B_lt (be L (M / D)) q
          generalize M / 256 ^ (L - q) % D = l at *
          generalize B (be L M) q = b at *
          have HQ := Lib.hid hquo
          have HR := Lib.hid hrem
          have HSet := Lib.hid hset
          have HBl := Lib.hid hbl2
          clear hquo hrem hset hbl2
          go_wp2_with (refine wp_store_cell rfl rfl (by kernel_rfl) rfl rfl rfl hBi (by rw [List.length_append, bvs_length, midW_length _ _ _ _ hq]; omega) ?_)
          intro w4 b4 g4 s4
          have hv : ((l : Int) * 256 + b) / (D : Int) % 256 = (B (be L (M / D)) q : Int) := by
            have e : ((l : Int) * 256 + b) / (D : Int) = (((l * 256 + b) / D : Nat) : Int) := by simp
            rw [e, HQ.out]
            have := HBl.out
            omega
          rw [hv, HSet.out] at b4
          have HV : Hid (((l : Int) * 256 + b) % (D : Int) = ((M / 256 ^ (L - (q + 1)) % D : Nat) : Int)) := by
            show _ = _
            rw [← HR.out]
            simp
          have hW4 := hWi.grown g4 (by intro e; have := Option.some.inj e; omega)
          have hw4 := hwi.grown g4 hwi.size (by rintro j ⟨⟩; exact hg)
          clear hv g4 s4 hBi hWi hwi hc
          go_wp2
          go_roundw
          case rel => exact ⟨q + 1, by omega, by go_num, by rw [HV.out], b4, hW4, hw4⟩
          case measure => simp [intOf]; omega
        · obtain rfl : q = L := by omega
          rw [midW_end, HMd.out] at hBi
          rw [Nat.sub_self, Nat.pow_zero, Nat.div_one] at hl ⊢
          have hchar : dl.toArray[M % D]? = some (dl.getD (M % D) 0) := by simp [HDl.out, hl]
          generalize M % D = d at *
          have hv : ∀ hh : d < (⟨dl.toArray⟩ : ByteArray).size, ((⟨dl.toArray⟩ : ByteArray)[d]'hh) = dl.getD d 0 := by
            intro hh
            show dl.toArray[d]'hh = _
            simp [HDl.out, hl]
          go_wp2_with (refine wp_store_cell rfl rfl (by kernel_rfl) rfl rfl rfl hWi (by rw [writRest_length _ _ _ _ hj]; omega) ?_)
          intro w4 b4 g4 s4
          rw [← List.getD_eq_getElem?_getD, Hdig.out, HS.out] at b4
          have hB4 := hBi.grown g4 (by intro e; have := Option.some.inj e; omega)
          have hw4 := hwi.grown g4 hwi.size (by rintro j ⟨⟩; omega)
          clear g4 s4 hBi hWi hwi hchar hv
          go_wp2
          go_roundw
          case rel => exact ⟨k, by omega, rfl, hB4, b4, hw4⟩
          case measure => simp [intOf]
end Go.Proofs.Ytbacbgicfomkbaa
