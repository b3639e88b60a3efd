import Derived.Test.Qxb6603801aLaw4
namespace Go.Proofs.Qxb6603801a
open Go.RowKit
set_option linter.unusedVariables false
set_option linter.unusedSimpArgs false

theorem marg {n : Nat} {V W : Nat → Int} (nn : ∀ j, j < n → 0 ≤ W j) (hV : ∀ j, j < n → -9223372036854775808 ≤ V j ∧ V j ≤ 9223372036854775807) {r t0 t1 : Int} (h1 : ltS n V W t0 < r) (h2 : r ≤ leS n V W t0) (h3 : ltS n V W t1 < r + 1) (h4 : r + 1 ≤ leS n V W t1) :
    wrap64 (wrap64 (Fs n V W (r + 1) t1) - wrap64 (Fs n V W r t0)) = t1 := by
  rw [w_sub, step_adds nn h1 h2 h3 h4]
  obtain ⟨j, hj, _, he⟩ := rth_there nn h3 h4
  have := hV j hj
  rw [show Fs n V W r t0 + t1 - Fs n V W r t0 = t1 from by omega]
  exact w_in t1 (by omega) (by omega)

set_option maxHeartbeats 2000000 in
theorem law4_main (a1 a2 : Option Addr) (n1 n2 c1 c2 : Nat) (V W : Nat → Int) (r : Int) (w : World) (h1 : n1 ≤ 4096) (h2 : n2 ≤ 4096) (hr : -9223372036854775808 ≤ r ∧ r ≤ 9223372036854775807)
    (hV : ∀ j, j < n1 → -9223372036854775808 ≤ V j ∧ V j ≤ 9223372036854775807) (hW : ∀ j, j < n2 → W j ≤ 9223372036854775807) (m1 : Came w a1 n1 V) (m2 : Came w a2 n2 W) :
    Calls Try.prog 4 #[.slice a1 n1 c1, .slice a2 n2 c2, .int .i64 r] w fun e w' => e = .returned (.bool true) ∧ Below w.heap.size w w' := by
  have B := hideP (bytes11 a1 a2 n1 n2 c1 c2 r w (by unfold maxLen; omega) (by unfold maxLen; omega))
  have D := hideP (domain_any a1 a2 n1 n2 c1 c2 W r w h1 h2 hr hW m2)
  have M1 := hideP m1
  have M2 := hideP m2
  have HV := hideP hV
  clear m1 m2 hr hV hW
  go_enter Try.func4, Try.ntmps4
  go_wp2_with fail
  refine B.out.mono ?_
  rintro e w' ⟨⟨b, rfl, hb⟩, rfl⟩
  obtain rfl := hb (by omega)
  clear hb B
  go_wp2_with fail
  refine D.out.mono ?_
  rintro e wB ⟨hd, rfl⟩
  clear D
  rcases hd with ⟨x, rfl⟩ | ⟨rfl, rfl, nn, htot, hr1, hr2⟩
  · go_wp2
    go_ret
    exact ⟨rfl, Below.refl _ _⟩
  have NN := hideP nn
  have HT := hideP htot
  have HR := hideP hr2
  obtain ⟨T, hT⟩ : ∃ T, sm n1 W = T := ⟨_, rfl⟩
  have HTT := hideP hT
  rw [hT] at htot hr2 ⊢
  clear nn hT
  by_cases hrt : T - 2 < r
  · go_wp2
    go_ret
    exact ⟨rfl, Below.refl _ _⟩
  have hn0 : 0 < n1 := by
    rcases Nat.eq_zero_or_pos n1 with h | h
    · exfalso
      have := HTT.out
      rw [h] at this
      simp [sm] at this
      omega
    · exact h
  obtain ⟨x1, o1, rfl, hc1⟩ := M1.out.at hn0
  obtain ⟨x2, o2, rfl, hc2⟩ := M2.out.at hn0
  have C1 := hideP (clone_row x1 o1 n1 c1 V _ (by omega) hc1)
  have HC2 := hideP hc2
  clear hc1 hc2 M1 M2
  go_wp2_with fail
  refine C1.out.mono ?_
  rintro e w1 ⟨rfl, r1, z1, g1⟩
  have G1 := hideP (below_grown g1)
  have R1 := hideP r1
  have C2 := hideP (clone_row x2 o2 n1 c2 W w1 (by omega) (fun i hi => G1.out.cell (HC2.out i hi) (by simp)))
  clear g1 r1 z1 C1 HC2
  go_wp2_with fail
  refine C2.out.mono ?_
  rintro e w2 ⟨rfl, r2, z2, g2⟩
  have G2 := hideP (below_grown g2)
  have RV := hideP (row_grown R1.out (below_grown g2) (by simp))
  have RW := hideP r2
  clear g2 r2 z2 C2 R1

  -- the sum of the first rs
  go_wp2_with fail
  refine (copy_row _ n1 V w2 h1 RV.out).mono ?_
  rintro e a1 ⟨rfl, p1, p2, p3⟩
  have P1 := hideP (And.intro p1 (And.intro p2 p3))
  have RW1 := hideP (row_grown RW.out p3 (by simp))
  clear p1 p2 p3
  go_wp2_with fail
  refine (copy_row _ n1 W a1 h1 RW1.out).mono ?_
  rintro e a2 ⟨rfl, q1, q2, q3⟩
  have Z := hideP (zsum n1 V W (r) w2 a1 a2 h1 hn0 P1.out.2.2 P1.out.2.1 q3 q2 P1.out.1 q1 NN.out HT.out (by omega) (by have := HTT.out; omega))
  clear q1 q2 q3 P1 RW1
  go_wp2_with fail
  refine Z.out.mono ?_
  rintro e w3 ⟨t0, _, _, _, _, rfl, l1, l2, _, _, _, _, kp⟩
  have Lt0 := hideP (And.intro l1 l2)
  have Kt0 := hideP (kept_grown kp)
  have RVa := hideP (row_grown RV.out (kept_grown kp) (by simp))
  have RWa := hideP (row_grown RW.out (kept_grown kp) (by simp))
  obtain ⟨y0, hy0⟩ : ∃ y, wrap64 (Fs n1 V W (r) t0) = y := ⟨_, rfl⟩
  have Hy0 := hideP hy0
  rw [hy0]
  clear l1 l2 kp hy0 Z

  -- the sum of the first r + 1s
  go_wp2_with fail
  refine (copy_row _ n1 V w3 h1 RVa.out).mono ?_
  rintro e a1 ⟨rfl, p1, p2, p3⟩
  have P1 := hideP (And.intro p1 (And.intro p2 p3))
  have RW1 := hideP (row_grown RWa.out p3 (by simp))
  clear p1 p2 p3
  go_wp2_with fail
  refine (copy_row _ n1 W a1 h1 RW1.out).mono ?_
  rintro e a2 ⟨rfl, q1, q2, q3⟩
  have Z := hideP (zsum n1 V W (r + 1) w3 a1 a2 h1 hn0 P1.out.2.2 P1.out.2.1 q3 q2 P1.out.1 q1 NN.out HT.out (by omega) (by have := HTT.out; omega))
  clear q1 q2 q3 P1 RW1
  go_wp2_with fail
  refine Z.out.mono ?_
  rintro e w4 ⟨t1, _, _, _, _, rfl, l1, l2, _, _, _, _, kp⟩
  have Lt1 := hideP (And.intro l1 l2)
  have Kt1 := hideP (kept_grown kp)
  have RVb := hideP (row_grown RVa.out (kept_grown kp) (by simp))
  have RWb := hideP (row_grown RWa.out (kept_grown kp) (by simp))
  obtain ⟨y1, hy1⟩ : ∃ y, wrap64 (Fs n1 V W (r + 1) t1) = y := ⟨_, rfl⟩
  have Hy1 := hideP hy1
  rw [hy1]
  clear l1 l2 kp hy1 Z

  -- the sum of the first r + 2s
  go_wp2_with fail
  refine (copy_row _ n1 V w4 h1 RVb.out).mono ?_
  rintro e a1 ⟨rfl, p1, p2, p3⟩
  have P1 := hideP (And.intro p1 (And.intro p2 p3))
  have RW1 := hideP (row_grown RWb.out p3 (by simp))
  clear p1 p2 p3
  go_wp2_with fail
  refine (copy_row _ n1 W a1 h1 RW1.out).mono ?_
  rintro e a2 ⟨rfl, q1, q2, q3⟩
  have Z := hideP (zsum n1 V W (r + 2) w4 a1 a2 h1 hn0 P1.out.2.2 P1.out.2.1 q3 q2 P1.out.1 q1 NN.out HT.out (by omega) (by have := HTT.out; omega))
  clear q1 q2 q3 P1 RW1
  go_wp2_with fail
  refine Z.out.mono ?_
  rintro e w5 ⟨t2, _, _, _, _, rfl, l1, l2, _, _, _, _, kp⟩
  have Lt2 := hideP (And.intro l1 l2)
  have Kt2 := hideP (kept_grown kp)
  have RVc := hideP (row_grown RVb.out (kept_grown kp) (by simp))
  have RWc := hideP (row_grown RWb.out (kept_grown kp) (by simp))
  obtain ⟨y2, hy2⟩ : ∃ y, wrap64 (Fs n1 V W (r + 2) t2) = y := ⟨_, rfl⟩
  have Hy2 := hideP hy2
  rw [hy2]
  clear l1 l2 kp hy2 Z

  have D1 : wrap64 (y1 - y0) = t1 := by rw [← Hy1.out, ← Hy0.out]; exact marg NN.out HV.out Lt0.out.1 Lt0.out.2 Lt1.out.1 Lt1.out.2
  have D2 : wrap64 (y2 - y1) = t2 := by
    rw [← Hy2.out, ← Hy1.out]
    have e : r + 2 = (r + 1) + 1 := by omega
    have a := Lt2.out
    rw [e] at a ⊢
    exact marg NN.out HV.out Lt1.out.1 Lt1.out.2 a.1 a.2
  have D3 : t1 ≤ t2 := rth_le NN.out (show r + 1 ≤ r + 2 by omega) Lt1.out.1 Lt2.out.2
  have X1 := hideP (rth_there NN.out Lt1.out.1 Lt1.out.2)
  have X2 := hideP (rth_there NN.out Lt2.out.1 Lt2.out.2)
  have FB : Hid (Below wB.heap.size wB w5) := by
    have g := grown_then G1.out (grown_then G2.out (grown_then Kt0.out (grown_then Kt1.out Kt2.out)))
    exact (Below.refl _ _).grown g (Nat.le_refl _) (by simp)
  clear Lt0 Lt1 Lt2 Hy0 Hy1 Hy2 Kt0 Kt1 Kt2 G1 G2 RV RW RVa RWa RVb RWb
  go_wp2_with fail
  refine (present_any _ _ n1 V W t1 w5 h1 RVc.out RWc.out X1.out).mono ?_
  rintro e wx ⟨rfl, rfl⟩
  go_wp2_with fail
  refine (present_any _ _ n1 V W t2 _ h1 RVc.out RWc.out X2.out).mono ?_
  rintro e wx ⟨rfl, rfl⟩
  go_wp2
  go_ret
  exact ⟨rfl, FB.out⟩
end Go.Proofs.Qxb6603801a
