import Derived.Test.Qxb6603801aMatch
import Derived.Deep.QuietTactic
import Derived.BigQuiet
namespace Go.Proofs.Qxb6603801a
open Go.RowKit
set_option linter.unusedVariables false
set_option linter.unusedSimpArgs false

set_option maxRecDepth 20000 in
set_option maxHeartbeats 1000000 in
theorem law3_long (a1 a2 : Option Addr) (n1 n2 c1 c2 : Nat) (r : Int) (w : World) (h1 : n1 ≤ maxLen) (h2 : n2 ≤ maxLen) (h : 4096 < n1 ∨ 4096 < n2) :
    Calls Try.prog 3 #[.slice a1 n1 c1, .slice a2 n2 c2, .int .i64 r] w fun e w' => e = .returned (.bool true) ∧ Below w.heap.size w w' := by
  have B := hideP (bytes6 a1 a2 n1 n2 c1 c2 r w h1 h2)
  unfold maxLen at h1 h2
  by_cases e0 : 4096 < n1
  · clear h
    go_enter Try.func3, Try.ntmps3
    go_wp2_with (go_at_call 6; refine B.out.mono ?_; rintro e w' ⟨⟨b, rfl, _⟩, rfl⟩; cases b)
    all_goals (go_ret; exact ⟨rfl, Below.refl _ _⟩)
  · have e1 : 4096 < n2 := by omega
    clear h
    go_enter Try.func3, Try.ntmps3
    go_wp2_with (go_at_call 6; refine B.out.mono ?_; rintro e w' ⟨⟨b, rfl, _⟩, rfl⟩; cases b)
    all_goals (go_ret; exact ⟨rfl, Below.refl _ _⟩)

set_option maxRecDepth 20000 in
set_option maxHeartbeats 4000000 in
theorem law3_main (a1 a2 : Option Addr) (n1 n2 c1 c2 : Nat) (V W : Nat → Int) (r : Int) (w : World) (h1 : n1 ≤ 4096) (h2 : n2 ≤ 4096) (hr : -9223372036854775808 ≤ r ∧ r ≤ 9223372036854775807)
    (hV : ∀ j, j < n1 → -9223372036854775808 ≤ V j ∧ V j ≤ 9223372036854775807) (hW : ∀ j, j < n2 → W j ≤ 9223372036854775807) (m1 : Came w a1 n1 V) (m2 : Came w a2 n2 W) :
    Calls Try.prog 3 #[.slice a1 n1 c1, .slice a2 n2 c2, .int .i64 r] w fun e w' => e = .returned (.bool true) ∧ Below w.heap.size w w' := by
  have B := hideP (bytes6 a1 a2 n1 n2 c1 c2 r w (by unfold maxLen; omega) (by unfold maxLen; omega))
  have D := hideP (domain_any a1 a2 n1 n2 c1 c2 W r w h1 h2 hr hW m2)
  have M1 := hideP m1
  have M2 := hideP m2
  have HV := hideP hV
  clear m1 m2 hr hV hW
  go_enter Try.func3, Try.ntmps3
  go_wp2_with fail
  refine B.out.mono ?_
  rintro e w' ⟨⟨b, rfl, hb⟩, rfl⟩
  obtain rfl := hb (by omega)
  clear hb B
  go_wp2_with fail
  refine D.out.mono ?_
  rintro e wB ⟨hd, rfl⟩
  clear D
  rcases hd with ⟨x, rfl⟩ | ⟨rfl, rfl, nn, htot, hr1, hr2⟩
  · go_wp2
    go_ret
    exact ⟨rfl, Below.refl _ _⟩
  have NN := hideP nn
  have HT := hideP htot
  have HR := hideP hr2
  obtain ⟨T, hT⟩ : ∃ T, sm n1 W = T := ⟨_, rfl⟩
  have HTT := hideP hT
  rw [hT] at htot hr2 ⊢
  clear nn hT
  have hn0 : 0 < n1 := by
    rcases Nat.eq_zero_or_pos n1 with h | h
    · exfalso
      have := HTT.out
      rw [h] at this
      simp [sm] at this
      omega
    · exact h
  obtain ⟨x1, o1, rfl, hc1⟩ := M1.out.at hn0
  obtain ⟨x2, o2, rfl, hc2⟩ := M2.out.at hn0
  have C1 := hideP (clone_row x1 o1 n1 c1 V _ (by omega) hc1)
  have HC2 := hideP hc2
  clear hc1 hc2 M1 M2
  go_wp2_with fail
  refine C1.out.mono ?_
  rintro e w1 ⟨rfl, r1, z1, g1⟩
  have G1 := hideP (below_grown g1)
  have R1 := hideP r1
  have C2 := hideP (clone_row x2 o2 n1 c2 W w1 (by omega) (fun i hi => G1.out.cell (HC2.out i hi) (by simp)))
  clear g1 r1 z1 C1 HC2
  go_wp2_with fail
  refine C2.out.mono ?_
  rintro e w2 ⟨rfl, r2, z2, g2⟩
  have G2 := hideP (below_grown g2)
  have RV := hideP (row_grown R1.out (below_grown g2) (by simp))
  have RW := hideP r2
  clear g2 r2 z2 C2 R1

  go_wp2_with fail
  refine (copy_row _ n1 V w2 h1 RV.out).mono ?_
  rintro e w3 ⟨rfl, p1, p2, p3⟩
  have P1 := hideP (And.intro p1 (And.intro p2 p3))
  have RW1 := hideP (row_grown RW.out p3 (by simp))
  clear p1 p2 p3
  go_wp2_with fail
  refine (copy_row _ n1 W w3 h1 RW1.out).mono ?_
  rintro e w4 ⟨rfl, q1, q2, q3⟩
  have Z := hideP (zsum n1 V W r w2 w3 w4 h1 hn0 P1.out.2.2 P1.out.2.1 q3 q2 P1.out.1 q1 NN.out HT.out (by omega) (by have := HTT.out; omega))
  clear q1 q2 q3 P1 RW1
  go_wp2_with fail
  refine Z.out.mono ?_
  rintro e w5 ⟨t, b, a, V', W', rfl, l1, l2, hpart, heqv, sv, sw_, kp⟩
  have HL := hideP (And.intro l1 l2)
  have HPT := hideP hpart
  have HEQ := hideP heqv
  have SV := hideP sv
  have SW := hideP sw_
  have KG := hideP (kept_grown kp)
  have RV5 := hideP (row_grown RV.out (kept_grown kp) (by simp))
  have RW5 := hideP (row_grown RW.out (kept_grown kp) (by simp))
  have FB : Hid (Below wB.heap.size wB w5) := (Below.refl _ _).grown (grown_then G1.out (grown_then G2.out (kept_grown kp))) (Nat.le_refl _) (by simp)
  obtain ⟨y0, hy0⟩ : ∃ y, wrap64 (Fs n1 V W r t) = y := ⟨_, rfl⟩
  have HY := hideP hy0
  rw [hy0]
  clear l1 l2 hpart heqv sv sw_ kp hy0 Z RV RW
  go_wp2_with fail
  refine (threshold_any _ _ n1 V W r t w5 h1 RV5.out RW5.out NN.out HT.out HL.out.1 HL.out.2).mono ?_
  rintro e w6 ⟨rfl, m0, rfl⟩
  have hL0 : 0 ≤ ltS n1 V W t := sm_nonneg (fun i hi => by have := NN.out i hi; split <;> omega)
  have hL1 : ltS n1 V W t < r := HL.out.1
  obtain ⟨L, hL⟩ : ∃ L, ltS n1 V W t = L := ⟨_, rfl⟩
  have HLL := hideP hL
  rw [hL] at hL0 hL1 ⊢
  have hmk := run_make_row' (P := Try.prog) 30 4 (.bool false) 1 Try.underlying30 Try.info4 rfl .i64 .i64 n1 (by omega) (by omega)
  clear hL HL HT HR HTT
  go_wp2
  go_loopw [15, 16] (fun wt ii wr => ∃ k m : Nat, k ≤ n1 ∧ ii = .int .i64 k ∧ wt = .int .i64 (wrap64 (suS k V W t)) ∧ wr = w5.drewN m) (fun _ ii _ => n1 - (intOf ii).toNat)
  case atStart => exact ⟨0, m0, by omega, rfl, by simp [suS, sm, wrap64], rfl⟩
  case round =>
    obtain ⟨k, m, hk, rfl, rfl, rfl⟩ := hrel
    by_cases hlt : k < n1
    · have q1 := ints_cell RV5.out hlt
      have q2 := ints_cell RW5.out hlt
      have E1 : Hid (V k < t → wrap64 (suS (k + 1) V W t) = wrap64 (wrap64 (suS k V W t) + wrap64 (W k * V k))) := by
        intro h
        rw [w_add]
        unfold suS
        rw [sm_succ, if_pos h]
      have E2 : Hid (¬ V k < t → wrap64 (suS (k + 1) V W t) = wrap64 (suS k V W t)) := by
        intro h
        unfold suS
        rw [sm_succ, if_neg h, Int.add_zero]
      obtain ⟨x, hx⟩ : ∃ x, V k = x := ⟨_, rfl⟩
      obtain ⟨u, hu⟩ : ∃ u, W k = u := ⟨_, rfl⟩
      obtain ⟨S, hS⟩ : ∃ S, wrap64 (suS k V W t) = S := ⟨_, rfl⟩
      rw [hx] at q1 E1 E2
      rw [hu] at q2 E1
      rw [hS] at E1 E2 ⊢
      have i0 : (0 : Int) ≤ (k : Int) := by omega
      have i1 : (k : Int) < (n1 : Int) := by omega
      clear hx hu hS hmk
      by_cases hxt : x < t
      · have E3 := hideP (E1.out hxt)
        go_wp2
        go_quiet (fail)
        go_wp2
        go_roundw
        case rel => exact ⟨k + 1, _, by omega, by go_num, by rw [E3.out], rfl⟩
        case measure => simp [intOf]; omega
      · have E3 := hideP (E2.out hxt)
        go_wp2
        go_roundw
        case rel => exact ⟨k + 1, _, by omega, by go_num, by rw [E3.out], rfl⟩
        case measure => simp [intOf]; omega
    · have hkn : k = n1 := by omega
      subst hkn
      have E1 : wrap64 (wrap64 (suS k V W t) + wrap64 ((r - L) * t)) = y0 := by
        rw [w_add, ← HY.out, ← HLL.out]
        rfl
      obtain ⟨S, hS⟩ : ∃ S, wrap64 (suS k V W t) = S := ⟨_, rfl⟩
      rw [hS] at E1 ⊢
      clear hS
      go_wp2
      have M0 : Hid (MW wB wB.heap.size w1.heap.size w2.heap.size w3.heap.size w5.heap.size k V W V' W' (fun _ => false) ((w5.drewN m).alloc (.cells (madeCells #[.bool false] k) 4))) := by
        have l1 : wB.heap.size < w5.heap.size := RV5.out.lt
        have l2 : w1.heap.size < w5.heap.size := RW5.out.lt
        have l3 : w2.heap.size < w5.heap.size := SV.out.lt
        have l4 : w3.heap.size < w5.heap.size := SW.out.lt
        have bel : Below wB.heap.size wB (w5.drewN m) := ⟨FB.out.os, FB.out.tape, FB.out.output, FB.out.size, FB.out.block⟩
        exact ⟨World.rowIs.alloc (show (w5.drewN m).rowIs _ _ _ _ from RV5.out) _, World.rowIs.alloc (show (w5.drewN m).rowIs _ _ _ _ from RW5.out) _, World.rowIs.alloc (show (w5.drewN m).rowIs _ _ _ _ from SV.out) _, World.rowIs.alloc (show (w5.drewN m).rowIs _ _ _ _ from SW.out) _,
          World.rowIs_made (w5.drewN m) _ k 4, by omega, by omega, by omega, by omega, by omega, bel.alloc bel.size _⟩
      clear E1 hmk HLL HY FB RV5 RW5 SV SW KG NN G1 G2
      go_loopw [18] (fun ii wr => ∃ (i : Nat) (U : Nat → Bool), i ≤ k ∧ ii = .int .i64 i ∧ Matched k i U V W V' W' ∧ MW wB wB.heap.size w1.heap.size w2.heap.size w3.heap.size w5.heap.size k V W V' W' U wr) (fun ii _ => k - (intOf ii).toNat)
      case atStart => exact ⟨0, _, by omega, rfl, Matched.start _ _ _ _ _, M0.out⟩
      case round =>
        clear M0
        obtain ⟨i, U, hi, rfl, hma, hmw⟩ := hrel
        have HMA := hideP hma
        have HMW := hideP hmw
        clear hma hmw
        by_cases hik : i < k
        · obtain ⟨jf, hjf, hUf, hVf, hWf⟩ := HMA.out.free HEQ.out hik
          have q3 := ints_cell HMW.out.sv hik
          have q4 := ints_cell HMW.out.sw hik
          have HFR : Hid (∃ j, j < k ∧ U j = false ∧ V j = V' i ∧ W j = W' i) := ⟨jf, hjf, hUf, hVf, hWf⟩
          obtain ⟨x, hx⟩ : ∃ x, V' i = x := ⟨_, rfl⟩
          obtain ⟨y, hy⟩ : ∃ y, W' i = y := ⟨_, rfl⟩
          have HX := hideP hx
          have HYY := hideP hy
          rw [hx] at HFR
          rw [hy] at HFR
          clear hjf hUf hVf hWf q3 q4 hx hy
          have i0 : (0 : Int) ≤ (i : Int) := by omega
          have i1 : (i : Int) < (k : Int) := by omega
          go_wp2
          go_loopw [19, 20] (fun ff jj wr => ∃ (j : Nat) (U' : Nat → Bool) (fb : Bool), j ≤ k ∧ jj = .int .i64 j ∧ ff = .bool fb ∧ MW wB wB.heap.size w1.heap.size w2.heap.size w3.heap.size w5.heap.size k V W V' W' U' wr ∧
            Hid (fb = false → U' = U ∧ ∀ j', j' < j → ¬ (U j' = false ∧ V j' = x ∧ W j' = y)) ∧ Hid (fb = true → Matched k (i + 1) U' V W V' W')) (fun _ jj _ => k - (intOf jj).toNat)
          case atStart => exact ⟨0, U, false, by omega, rfl, rfl, HMW.out, hideP (fun _ => ⟨rfl, by omega⟩), hideP (by simp)⟩
          case round =>
            obtain ⟨j, U', fb, hj, rfl, rfl, hmw, H1, H2⟩ := hrel
            have HM2 := hideP hmw
            clear hmw
            cases fb with
            | true =>
              have HD := hideP (H2.out rfl)
              clear H1 H2
              by_cases hjk : j < k
              · go_wp2
                go_roundw
                case rel => exact ⟨i + 1, U', by omega, by go_num, HD.out, HM2.out⟩
                case measure => simp [intOf]; omega
              · go_wp2
                go_roundw
                case rel => exact ⟨i + 1, U', by omega, by go_num, HD.out, HM2.out⟩
                case measure => simp [intOf]; omega
            | false =>
              obtain ⟨rfl, hno⟩ := H1.out rfl
              have HNO := hideP hno
              clear H1 H2 hno
              by_cases hjk : j < k
              · have q1 := ints_cell HM2.out.rv hjk
                have q2 := ints_cell HM2.out.rw hjk
                have q3 := ints_cell HM2.out.sv hik
                have q4 := ints_cell HM2.out.sw hik
                have q5 := bools_cell HM2.out.ru hjk
                have q6 := HM2.out.ru.frozen j
                rw [HX.out] at q3
                rw [HYY.out] at q4
                have HYES : Hid (U' j = false → V j = x → W j = y → Matched k (i + 1) (fun k => if k = j then true else U' k) V W V' W') := fun a b c => HMA.out.step hjk a (b.trans HX.out.symm) (c.trans HYY.out.symm)
                have HNOT : Hid (¬ (U' j = false ∧ V j = x ∧ W j = y) → ∀ j', j' < j + 1 → ¬ (U' j' = false ∧ V j' = x ∧ W j' = y)) := by
                  intro h j' hj'
                  by_cases e : j' = j
                  · rw [e]; exact h
                  · exact HNO.out j' (by omega)
                have HUSE := hideP (fun m => (HM2.out.drewN m).use j)
                obtain ⟨u, hu⟩ : ∃ u, U' j = u := ⟨_, rfl⟩
                obtain ⟨vx, hvx⟩ : ∃ v, V j = v := ⟨_, rfl⟩
                obtain ⟨wy, hwy⟩ : ∃ v, W j = v := ⟨_, rfl⟩
                rw [hu] at q5 HYES HNOT
                rw [hvx] at q1 HYES HNOT
                rw [hwy] at q2 HYES HNOT
                have j0 : (0 : Int) ≤ (j : Int) := by omega
                have j1 : (j : Int) < (k : Int) := by omega
                clear hu hvx hwy HNO
                cases u with
                | true =>
                  have HN := hideP (HNOT.out (by simp))
                  clear HYES HNOT
                  go_wp2
                  go_quiet (fail)
                  go_wp2
                  go_roundw
                  case rel => exact ⟨j + 1, U', false, by omega, by go_num, rfl, HM2.out.drewN _, hideP (fun _ => ⟨rfl, HN.out⟩), hideP (by simp)⟩
                  case measure => simp [intOf]; omega
                | false =>
                  by_cases e1 : vx = x
                  · subst e1
                    by_cases e2 : wy = y
                    · subst e2
                      have HN := hideP (HYES.out rfl rfl rfl)
                      clear HYES HNOT
                      go_wp2
                      go_quiet (fail)
                      go_wp2
                      go_roundw
                      case rel => exact ⟨j + 1, _, true, by omega, by go_num, rfl, HUSE.out _, hideP (by simp), hideP (fun _ => HN.out)⟩
                      case measure => simp [intOf]; omega
                    · have HN := hideP (HNOT.out (fun h => e2 h.2.2))
                      have e3 : (wy == y) = false := by simpa using e2
                      clear HYES HNOT e2
                      go_wp2
                      go_quiet (fail)
                      go_wp2
                      go_roundw
                      case rel => exact ⟨j + 1, U', false, by omega, by go_num, rfl, HM2.out.drewN _, hideP (fun _ => ⟨rfl, HN.out⟩), hideP (by simp)⟩
                      case measure => simp [intOf]; omega
                  · have HN := hideP (HNOT.out (fun h => e1 h.2.1))
                    have e3 : (vx == x) = false := by simpa using e1
                    clear HYES HNOT e1
                    go_wp2
                    go_quiet (fail)
                    go_wp2
                    go_roundw
                    case rel => exact ⟨j + 1, U', false, by omega, by go_num, rfl, HM2.out.drewN _, hideP (fun _ => ⟨rfl, HN.out⟩), hideP (by simp)⟩
                    case measure => simp [intOf]; omega
              · exfalso
                obtain ⟨j', a, b, c, d⟩ := HFR.out
                exact HNO.out j' (by omega) ⟨b, c, d⟩
        · have hik2 : i = k := by omega
          subst hik2
          have hsv := HMW.out.sv
          have hbl := HMW.out.bel
          obtain ⟨p1, p2, p3, p4, p5⟩ := HPT.out
          have HSV := hideP hsv
          have HBL := hideP hbl
          have HP3 := hideP p3
          have HP4 := hideP p4
          have HP5 := hideP p5
          clear hsv hbl p3 p4 p5 HMW HMA HEQ HPT
          go_wp2
          go_loop [21, 22] (fun pp ii => ∃ (j : Nat) (p : Int), j ≤ i ∧ ii = .int .i64 j ∧ pp = .int .i64 p ∧ Hid (p = -1 ∨ (p = 0 ∧ b ≤ j) ∨ (p = 1 ∧ a ≤ j)) ∧ -1 ≤ p ∧ p ≤ 1) (fun _ ii => i - (intOf ii).toNat)
          case atStart => exact ⟨0, -1, by omega, rfl, rfl, hideP (.inl rfl), by omega, by omega⟩
          case round =>
            obtain ⟨j, p, hj, rfl, rfl, HQ, hp1, hp2⟩ := hrel
            by_cases hjk : j < i
            · have q1 := ints_cell HSV.out hjk
              have f1 := HP3.out j
              have f2 := HP4.out j
              have f3 := HP5.out j
              obtain ⟨x, hx⟩ : ∃ x, V' j = x := ⟨_, rfl⟩
              rw [hx] at q1 f1 f2 f3
              have hq := HQ.out
              by_cases e1 : x < t
              · have hjb : j < b := by
                  rcases Nat.lt_or_ge j b with h | h
                  · exact h
                  · rcases Nat.lt_or_ge j a with h' | h'
                    · have := f2 h h'; omega
                    · have := f3 h' hjk; omega
                have hp : ¬ (-1 : Int) < p := by omega
                clear f1 f2 f3 hx hq
                go_wp2
                go_round
                case rel => exact ⟨j + 1, -1, by omega, by go_num, rfl, hideP (.inl rfl), by omega, by omega⟩
                case measure => simp [intOf]; omega
              · by_cases e2 : t < x
                · have hja : a ≤ j := by
                    rcases Nat.lt_or_ge j a with h | h
                    · rcases Nat.lt_or_ge j b with h' | h'
                      · have := f1 h'; omega
                      · have := f2 h' h; omega
                    · exact h
                  clear f1 f2 f3 hx hq
                  go_wp2
                  go_round
                  case rel => exact ⟨j + 1, 1, by omega, by go_num, rfl, hideP (.inr (.inr ⟨rfl, by omega⟩)), by omega, by omega⟩
                  case measure => simp [intOf]; omega
                · have hjb : b ≤ j := by
                    rcases Nat.lt_or_ge j b with h | h
                    · have := f1 h; omega
                    · exact h
                  have hja : j < a := by
                    rcases Nat.lt_or_ge j a with h | h
                    · exact h
                    · have := f3 h hjk; omega
                  have hp : p ≤ 0 := by omega
                  clear f1 f2 f3 hx hq
                  go_wp2
                  go_round
                  case rel => exact ⟨j + 1, 0, by omega, by go_num, rfl, hideP (.inr (.inl ⟨rfl, by omega⟩)), by omega, by omega⟩
                  case measure => simp [intOf]; omega
            · have hjk2 : j = i := by omega
              subst hjk2
              go_wp2
              go_ret
              exact ⟨rfl, HBL.out⟩
end Go.Proofs.Qxb6603801a
