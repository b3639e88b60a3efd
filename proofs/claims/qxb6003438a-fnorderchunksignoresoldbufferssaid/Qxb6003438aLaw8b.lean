import Derived.Test.Qxb6003438aLaw8
namespace Go.Proofs.Qxb6003438a
open Go.RowKit
set_option linter.unusedVariables false
set_option linter.unusedSimpArgs false

set_option maxHeartbeats 1000000 in
theorem law8_long (a0 a1 a2 a3 : Option Addr) (n0 n1 n2 n3 c0 c1 c2 c3 : Nat) (w : World) (h0 : n0 ≤ maxLen) (h1 : n1 ≤ maxLen) (h2 : n2 ≤ maxLen) (h3 : n3 ≤ maxLen) (h : 4096 < n0 ∨ 4096 < n1 ∨ 4096 < n2 ∨ 4096 < n3) :
    Calls Try.prog 8 #[.slice a0 n0 c0, .slice a1 n1 c1, .slice a2 n2 c2, .slice a3 n3 c3] w fun e w' => e = .returned (.bool true) ∧ Below w.heap.size w w' := by
  have B := hideP (bytes18 a0 a1 a2 a3 n0 n1 n2 n3 c0 c1 c2 c3 w h0 h1 h2 h3)
  unfold maxLen at h0 h1 h2 h3
  by_cases e0 : 4096 < n0
  · clear h
    go_enter Try.func8, Try.ntmps8
    go_wp2_with (go_at_call 18; refine B.out.mono ?_; rintro e w' ⟨⟨b, rfl, _⟩, rfl⟩; cases b)
    all_goals (go_ret; exact ⟨rfl, Below.refl _ _⟩)
  by_cases e1 : 4096 < n1
  · clear h
    go_enter Try.func8, Try.ntmps8
    go_wp2_with (go_at_call 18; refine B.out.mono ?_; rintro e w' ⟨⟨b, rfl, _⟩, rfl⟩; cases b)
    all_goals (go_ret; exact ⟨rfl, Below.refl _ _⟩)
  by_cases e2 : 4096 < n2
  · clear h
    go_enter Try.func8, Try.ntmps8
    go_wp2_with (go_at_call 18; refine B.out.mono ?_; rintro e w' ⟨⟨b, rfl, _⟩, rfl⟩; cases b)
    all_goals (go_ret; exact ⟨rfl, Below.refl _ _⟩)
  · have e3 : 4096 < n3 := by omega
    clear h
    go_enter Try.func8, Try.ntmps8
    go_wp2_with (go_at_call 18; refine B.out.mono ?_; rintro e w' ⟨⟨b, rfl, _⟩, rfl⟩; cases b)
    all_goals (go_ret; exact ⟨rfl, Below.refl _ _⟩)

set_option maxRecDepth 20000 in
set_option maxHeartbeats 1000000 in
theorem law8_main (a0 a1 a2 a3 : Option Addr) (k n1 n2 n3 c0 c1 c2 c3 : Nat) (f f1 f2 f3 : Nat → Int) (w : World) (hl : k ≤ 4096) (h1 : n1 ≤ 4096) (h2 : n2 ≤ 4096) (h3 : n3 ≤ 4096)
    (hc0 : a0 = none → c0 = 0) (hc1 : a1 = none → c1 = 0) (hc2 : a2 = none → c2 = 0) (hc3 : a3 = none → c3 = 0) (m0 : Came w a0 k f) (m1 : Came w a1 n1 f1) (m2 : Came w a2 n2 f2) (m3 : Came w a3 n3 f3) :
    Calls Try.prog 8 #[.slice a0 k c0, .slice a1 n1 c1, .slice a2 n2 c2, .slice a3 n3 c3] w fun e w' => e = .returned (.bool true) ∧ Below w.heap.size w w' := by
  have B := hideP (bytes18 a0 a1 a2 a3 k n1 n2 n3 c0 c1 c2 c3 w (by unfold maxLen; omega) (by unfold maxLen; omega) (by unfold maxLen; omega) (by unfold maxLen; omega))
  have M0 := hideP m0
  have M1 := hideP m1
  have M2 := hideP m2
  have M3 := hideP m3
  have C0 := hideP hc0
  have C1 := hideP hc1
  have C2 := hideP hc2
  have C3 := hideP hc3
  clear m0 m1 m2 m3 hc0 hc1 hc2 hc3
  go_enter Try.func8, Try.ntmps8
  go_wp2_with (go_at_call 18; refine B.out.mono ?_; rintro e w' ⟨⟨b, rfl, hb⟩, rfl⟩; obtain rfl := hb (by omega))
  clear B
  go_loop [9] (fun i => ∃ j : Nat, j ≤ k ∧ i = .int .i64 j ∧ Hid (∀ i, i < j → 0 ≤ f i ∧ f i < 512)) (fun i => k - (intOf i).toNat)
  case atStart => exact ⟨0, by omega, rfl, hideP (by omega)⟩
  case round =>
    obtain ⟨j, hj, rfl, HK⟩ := hrel
    by_cases hlt : j < k
    · obtain ⟨b, off, rfl, hcell⟩ := M0.out.at (by omega)
      have q0 := hcell j hlt
      obtain ⟨x, hx⟩ : ∃ x, f j = x := ⟨_, rfl⟩
      rw [hx] at q0
      have HX := hideP hx
      clear hcell hx
      by_cases h1 : x < 0
      · go_wp2
        go_ret
        exact ⟨rfl, Below.refl _ _⟩
      · by_cases h2 : 512 ≤ x
        · go_wp2
          go_ret
          exact ⟨rfl, Below.refl _ _⟩
        · go_wp2
          go_round
          case rel =>
            refine ⟨j + 1, by omega, by go_num, hideP fun i hi => ?_⟩
            by_cases e : i = j
            · rw [e, HX.out]; omega
            · exact HK.out i (by omega)
          case measure => simp [intOf]; omega
    · have hkl : j = k := by omega
      subst hkl
      clear hlt hj
      go_wp2_with fail
      refine (clone_any a0 j c0 f _ (by omega) C0.out M0.out).mono ?_
      rintro e w1 ⟨ap, rfl, g1, r1⟩
      have G1 := hideP g1
      have R1 := hideP r1
      have M1' := hideP (M1.out.grown g1)
      have M2' := hideP (M2.out.grown g1)
      have M3' := hideP (M3.out.grown g1)
      clear g1 r1 M0 M1 M2 M3
      go_wp2_with fail
      refine (clone_any a1 n1 c1 f1 w1 (by omega) C1.out M1'.out).mono ?_
      rintro e w2 ⟨asl, rfl, g2, r2⟩
      have G2 := hideP g2
      have R2 := hideP r2
      have M2'' := hideP (M2'.out.grown g2)
      have M3'' := hideP (M3'.out.grown g2)
      clear g2 r2 M1' M2' M3'
      go_wp2_with fail
      refine (clone_any a2 n2 c2 f2 w2 (by omega) C2.out M2''.out).mono ?_
      rintro e w3 ⟨ao, rfl, g3, r3⟩
      have G3 := hideP g3
      have R3 := hideP r3
      have M3' := hideP (M3''.out.grown g3)
      clear g3 r3 M2'' M3''
      go_wp2_with fail
      refine (clone_any a3 n3 c3 f3 w3 (by omega) C3.out M3'.out).mono ?_
      rintro e w4 ⟨ac, rfl, g4, r4⟩
      have G4 := hideP g4
      have R4 := hideP r4
      have P4 := hideP ((((clone_came R1.out).grown G2.out).grown G3.out).grown g4)
      clear g4 r4 M3'
      go_wp2_with fail
      refine (clone_any ap j j f w4 (by omega) (clone_cap R1.out) P4.out).mono ?_
      rintro e w5 ⟨aq, rfl, g5, r5⟩
      have G5 := hideP g5
      have Z1 := hideP (first_zz hl HK.out r5)
      have P5 := hideP (P4.out.grown g5)
      clear g5 r5 P4
      go_wp2_with fail
      refine Z1.out.mono ?_
      rintro e w6 ⟨v1, v2, v3, rfl, R6⟩
      have HR6 := hideP R6
      have P6 : Hid (Came w6 ap j f) := by
        obtain ⟨_, _, _, _, _, _, _, _, _, _, _, _, _, _, _, _, _, _, _, kp, _⟩ := R6
        exact P5.out.grown (kept_grown kp)
      clear R6 Z1 P5
      go_wp2_with fail
      refine (clone_any ap j j f w6 (by omega) (clone_cap R1.out) P6.out).mono ?_
      rintro e w7 ⟨aq2, rfl, g7, r7⟩
      have Z2 := hideP (second_zz hl h1 h2 h3 HK.out G1.out G2.out G3.out G4.out G5.out g7 R2.out R3.out R4.out HR6.out r7)
      clear g7 r7 P6 HR6 R1 R2 R3 R4 G1 G2 G3 G4 G5 HK
      go_wp2_with fail
      refine Z2.out.mono ?_
      rintro e w8 ⟨b1, b2, b3, b1', b2', b3', d1, d2, d3, d1', d2', d3', rfl, rfl, rfl, rfl, S1, S2, S3, BL⟩
      have H1 := hideP S1
      have H2 := hideP S2
      have H3 := hideP S3
      have HB := hideP BL
      clear S1 S2 S3 BL Z2
      go_wp2_with fail
      refine (equal_any b1 b1' 513 d1 d1' w8 (by omega) H1.out).mono ?_
      rintro e w9 ⟨rfl, m1, rfl⟩
      go_wp2_with fail
      refine (equal_any b2 b2' j d2 d2' (w8.drewN m1) hl (show Same (w8.drewN m1) b2 b2' j from H2.out)).mono ?_
      rintro e w9 ⟨rfl, m2, rfl⟩
      go_wp2_with fail
      refine (equal_any b3 b3' 512 d3 d3' (w8.drewN (m1 + m2)) (by omega) (show Same (w8.drewN (m1 + m2)) b3 b3' 512 from H3.out)).mono ?_
      rintro e w9 ⟨rfl, m3, rfl⟩
      go_wp2
      go_ret
      have hb := HB.out
      exact ⟨rfl, hb.os, hb.tape, hb.output, hb.size, hb.block⟩
end Go.Proofs.Qxb6003438a
