/- What the law FnKsuidSort computes: true. -/
import Derived.Test.YtbacbgicfomkbaaKSortFn
import Derived.Test.YtbacbgicfomkbaaSortedFn
import Derived.Test.YtbacbgicfomkbaaArgs
namespace Go.Proofs.Ytbacbgicfomkbaa
open Go.RowKit
set_option linter.unusedVariables false
theorem sameLists_at {a b : Option Addr} {n m ca cb : Nat} {ls ms : List (List UInt8)} {w : World} {r : Bool} (h1 : RdL w a ls) (h2 : RdL w b ms) (e1 : ls.length = n) (e2 : ms.length = m) (hr : decide (ls = ms) = r) :
    Calls Try.prog 21 #[.slice a n ca, .slice b m cb] w fun e w' => e = .returned (.bool r) ∧ Below w.heap.size w w' := by
  subst e1 e2 hr; exact sameLists_ok a b ls ms ca cb w h1 h2
set_option maxRecDepth 100000 in
theorem ksuidSort_walk (a0 : Option Addr) (x0 : List (List UInt8)) (c0 : Nat) (w : World) (h0 : RdL w a0 x0) (hc : x0.length ≤ c0) (hc' : c0 ≤ 9223372036854775807) :
    Calls Try.prog 5 #[.slice a0 x0.length c0] w fun e w' => e = .returned (.bool true) ∧ Below w.heap.size w w' := by
  have hb := Below.refl w.heap.size w
  have H0 := Lib.hid h0
  clear h0
  go_enter Try.func5, Try.ntmps5
  go_wp2_with (go_at_call 17; refine (zzFits_ok a0 x0 c0 w H0.out).mono ?_)
  intro e w1
  try simp only [and_imp, forall_exists_index]
  intro b1 he hw
  subst he
  subst hw
  cases b1
  · go_wp2
    go_ret
    exact ⟨rfl, hb⟩
  · go_wp2_with (go_at_call 18; refine (sized_ok a0 x0 c0 _ H0.out).mono ?_)
    intro e w2
    try simp only [and_imp, forall_exists_index]
    intro b2 he hb2 hw
    subst he
    subst hw
    cases b2
    · clear hb2
      go_wp2
      go_ret
      exact ⟨rfl, hb⟩
    · obtain ⟨h12, h20⟩ := hb2 rfl
      have H20 := Lib.hid h20
      clear hb2 h20
      go_wp2_with (go_at_call 19; refine (ksuidSort_fn a0 x0 c0 x0.length _ H0.out H20.out rfl h12).mono ?_)
      intro e w3
      try simp only [and_imp, forall_exists_index]
      intro a3 c3 bb js he p1 p2 p3 hr3 hb3
      subst he
      have P := Lib.hid (And.intro p1 (And.intro p2 p3))
      have HB3 := Lib.hid hb3
      have R3 := Lib.hid hr3
      clear p1 p2 p3 hb3 hr3
      go_wp2_with (go_at_call 20; refine (sorted_ok a0 x0 c0 x0.length _ (H0.out.kept HB3.out) H20.out rfl h12).mono ?_)
      intro e w4
      try simp only [and_imp, forall_exists_index]
      intro a4 c4 ss he q1 q2 hr4 hb4
      subst he
      have hjs : js = ss := sorted_unique (P.out.1.trans q1.symm) P.out.2.1 q2
      have hls : decide (x0 = ss) = bb := by
        rw [Bool.eq_iff_iff, decide_eq_true_iff, P.out.2.2]
        exact ⟨fun h => h ▸ q2, fun h => sorted_unique q1.symm h q2⟩
      have hsl : ss.length = x0.length := q1.length_eq
      have R3' := Lib.hid (R3.out.kept hb4)
      have R0' := Lib.hid ((H0.out.kept HB3.out).kept hb4)
      have HB4 := Lib.hid (HB3.out.trans (hb4.mono HB3.out.size))
      have R4 := Lib.hid hr4
      have HJ := Lib.hid hjs
      have HLS := Lib.hid hls
      have HSL := Lib.hid hsl
      clear q1 q2 hr4 hb4 hjs hls hsl HB3 R3 P
      have HJL : Hid (js.length = x0.length) := Lib.hid (by rw [HJ.out]; exact HSL.out)
      have HD : Hid (decide (js = ss) = true) := Lib.hid (by rw [HJ.out]; simp)
      go_wp2_with (go_at_call 21; refine (sameLists_at R3'.out R4.out HJL.out HSL.out HD.out).mono ?_)
      rintro e w5 ⟨rfl, hb5⟩
      have R45 := Lib.hid (R4.out.kept hb5)
      have R05 := Lib.hid (R0'.out.kept hb5)
      have HB5 := Lib.hid (HB4.out.trans (hb5.mono HB4.out.size))
      clear hb5 R4 R0' R3'
      go_wp2_with (go_at_call 21; refine (sameLists_at R05.out R45.out rfl HSL.out HLS.out).mono ?_)
      rintro e w6 ⟨rfl, hb6⟩
      have HB6 := Lib.hid (HB5.out.trans (hb6.mono HB5.out.size))
      clear hb6
      cases bb
      all_goals
        go_wp2
        go_ret
        exact ⟨rfl, HB6.out⟩
end Go.Proofs.Ytbacbgicfomkbaa
