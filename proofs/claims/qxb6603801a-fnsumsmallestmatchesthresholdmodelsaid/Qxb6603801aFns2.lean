import Derived.Test.Qxb6603801aFns
namespace Go.Proofs.Qxb6603801a
open Go.RowKit
set_option linter.unusedVariables false
set_option linter.unusedSimpArgs false

theorem present_any (bv bw n : Nat) (V W : Nat → Int) (x : Int) (w : World) (hn : n ≤ 4096) (rv : w.rowIs bv 3 n (ints V)) (rw_ : w.rowIs bw 3 n (ints W)) (hex : ∃ j, j < n ∧ 0 < W j ∧ V j = x) :
    Calls Try.prog 12 #[.slice (some ⟨bv, 0, none⟩) n n, .slice (some ⟨bw, 0, none⟩) n n, .int .i64 x] w fun e w' => e = .returned (.bool true) ∧ w' = w := by
  have RV := hideP rv
  have RW := hideP rw_
  have HE := hideP hex
  clear rv rw_ hex
  go_enter Try.func12, Try.ntmps12
  go_wp2
  go_loop [7] (fun i => ∃ k : Nat, k ≤ n ∧ i = .int .i64 k ∧ Hid (∀ j, j < k → ¬ (0 < W j ∧ V j = x))) (fun i => n - (intOf i).toNat)
  case atStart => exact ⟨0, by omega, rfl, hideP (by omega)⟩
  case round =>
    obtain ⟨k, hk, rfl, HK⟩ := hrel
    by_cases hlt : k < n
    · have q1 := ints_cell RV.out hlt
      have q2 := ints_cell RW.out hlt
      have HS : Hid (¬ (0 < W k ∧ V k = x) → ∀ j, j < k + 1 → ¬ (0 < W j ∧ V j = x)) := by
        intro h j hj
        by_cases e : j = k
        · rw [e]; exact h
        · exact HK.out j (by omega)
      obtain ⟨y, hy⟩ : ∃ y, V k = y := ⟨_, rfl⟩
      obtain ⟨u, hu⟩ : ∃ u, W k = u := ⟨_, rfl⟩
      rw [hy] at q1 HS
      rw [hu] at q2 HS
      clear hy hu HK
      by_cases e1 : 0 < u
      · by_cases e2 : y = x
        · subst e2
          go_wp2
          go_ret
          exact ⟨rfl, rfl⟩
        · have e3 : (y == x) = false := by simpa using e2
          have HE2 := hideP e2
          clear e2
          go_wp2
          go_round
          case rel => exact ⟨k + 1, by omega, by go_num, hideP (HS.out (fun h => HE2.out h.2))⟩
          case measure => simp [intOf]; omega
      · go_wp2
        go_round
        case rel => exact ⟨k + 1, by omega, by go_num, hideP (HS.out (fun h => by omega))⟩
        case measure => simp [intOf]; omega
    · exfalso
      obtain ⟨j, hj, h⟩ := HE.out
      exact HK.out j (by omega) h

set_option maxHeartbeats 1000000 in
theorem threshold_any (bv bw n : Nat) (V W : Nat → Int) (r t : Int) (w : World) (hn : n ≤ 4096) (rv : w.rowIs bv 3 n (ints V)) (rw_ : w.rowIs bw 3 n (ints W)) (nn : ∀ j, j < n → 0 ≤ W j) (htot : sm n W ≤ 9223372036854775807) (h1 : ltS n V W t < r) (h2 : r ≤ leS n V W t) :
    Calls Try.prog 10 #[.slice (some ⟨bv, 0, none⟩) n n, .slice (some ⟨bw, 0, none⟩) n n, .int .i64 r] w fun e w' => e = .returned (.tuple #[.int .i64 t, .int .i64 (ltS n V W t), .bool true]) ∧ ∃ m, w' = w.drewN m := by
  have RV := hideP rv
  have RW := hideP rw_
  have NN := hideP nn
  have HT := hideP htot
  have HL := hideP (And.intro h1 h2)
  clear rv rw_ nn htot h1 h2
  go_enter Try.func10, Try.ntmps10
  go_wp2
  go_loopw [9] (fun i wr => ∃ k m : Nat, k ≤ n ∧ i = .int .i64 k ∧ Hid (∀ j, j < k → V j ≠ t) ∧ wr = w.drewN m) (fun i _ => n - (intOf i).toNat)
  case atStart => exact ⟨0, 0, by omega, rfl, hideP (by omega), rfl⟩
  case round =>
    obtain ⟨k, m, hk, rfl, HK, rfl⟩ := hrel
    by_cases hlt : k < n
    · have q0 := ints_cell RV.out hlt
      obtain ⟨y, hy⟩ : ∃ y, V k = y := ⟨_, rfl⟩
      rw [hy] at q0
      have HY := hideP hy
      have i2 : (0 : Int) ≤ (k : Int) := by omega
      have i3 : (k : Int) < (n : Int) := by omega
      clear hy
      go_wp2
      go_loopw [10, 11, 12] (fun lt le jj wr => ∃ j m : Nat, j ≤ n ∧ jj = .int .i64 j ∧ lt = .int .i64 (ltS j V W y) ∧ le = .int .i64 (leS j V W y) ∧ wr = w.drewN m) (fun _ _ jj _ => n - (intOf jj).toNat)
      case atStart => exact ⟨0, m, by omega, rfl, rfl, rfl, rfl⟩
      case round =>
        obtain ⟨j, m', hj, rfl, rfl, rfl, rfl⟩ := hrel
        have b1 : 0 ≤ ltS j V W y := sm_nonneg (fun i hi => by have := NN.out i (by omega); split <;> omega)
        have b2 : 0 ≤ leS j V W y := sm_nonneg (fun i hi => by have := NN.out i (by omega); split <;> omega)
        have b3 : ltS j V W y ≤ sm j W := sm_mono (fun i hi => by have := NN.out i (by omega); split <;> omega)
        have b4 : leS j V W y ≤ sm j W := sm_mono (fun i hi => by have := NN.out i (by omega); split <;> omega)
        have b5 := HT.out
        by_cases hjn : j < n
        · have q1 := ints_cell RV.out hjn
          have q2 := ints_cell RW.out hjn
          have x0 := NN.out j hjn
          have b6 := sm_up (F := W) (show j + 1 ≤ n by omega) NN.out
          rw [sm_succ] at b6
          have E1 : Hid (ltS (j + 1) V W y = ltS j V W y + if V j < y then W j else 0) := sm_succ j _
          have E2 : Hid (leS (j + 1) V W y = leS j V W y + if V j ≤ y then W j else 0) := sm_succ j _
          obtain ⟨x, hx⟩ : ∃ x, V j = x := ⟨_, rfl⟩
          obtain ⟨u, hu⟩ : ∃ u, W j = u := ⟨_, rfl⟩
          obtain ⟨L, hL⟩ : ∃ L, ltS j V W y = L := ⟨_, rfl⟩
          obtain ⟨M, hM⟩ : ∃ M, leS j V W y = M := ⟨_, rfl⟩
          rw [hx] at q1 E1 E2
          rw [hu] at q2 E1 E2 x0 b6
          rw [hL] at E1 b1 b3 ⊢
          rw [hM] at E2 b2 b4 ⊢
          have c1 : L + u ≤ 9223372036854775807 := by omega
          have c2 : M + u ≤ 9223372036854775807 := by omega
          have i0 : (0 : Int) ≤ (j : Int) := by omega
          have i1 : (j : Int) < (n : Int) := by omega
          clear hx hu hL hM b3 b4 b5 b6
          by_cases e1 : x < y
          · have e2 : x ≤ y := by omega
            go_wp2
            go_quiet (fail)
            go_wp2
            go_quiet (fail)
            go_wp2
            go_roundw
            case rel => exact ⟨j + 1, _, by omega, by go_num, by rw [E1.out, if_pos e1], by rw [E2.out, if_pos e2], rfl⟩
            case measure => simp [intOf]; omega
          · have d1 : decide (x < y) = false := by simpa using e1
            by_cases e2 : x ≤ y
            · go_wp2
              go_quiet (fail)
              go_wp2
              go_quiet (fail)
              go_wp2
              go_roundw
              case rel => exact ⟨j + 1, _, by omega, by go_num, by rw [E1.out, if_neg (by omega)]; go_num, by rw [E2.out, if_pos e2], rfl⟩
              case measure => simp [intOf]; omega
            · have d2 : decide (x ≤ y) = false := by simpa using e2
              go_wp2
              go_quiet (fail)
              go_wp2
              go_quiet (fail)
              go_wp2
              go_roundw
              case rel => exact ⟨j + 1, _, by omega, by go_num, by rw [E1.out, if_neg (by omega)]; go_num, by rw [E2.out, if_neg (by omega)]; go_num, rfl⟩
              case measure => simp [intOf]; omega
        · have hjn2 : j = n := by omega
          subst hjn2
          have HN : Hid (ltS j V W y < r → r ≤ leS j V W y → y = t) := fun a b => rth_one NN.out a b HL.out.1 HL.out.2
          have HS : Hid (y ≠ t → ∀ i, i < k + 1 → V i ≠ t) := by
            intro h i hi
            by_cases e : i = k
            · rw [e, HY.out]; exact h
            · exact HK.out i (by omega)
          have HLT := hideP HL.out
          by_cases e0 : y = t
          · subst e0
            obtain ⟨L, hL⟩ : ∃ L, ltS j V W y = L := ⟨_, rfl⟩
            obtain ⟨M, hM⟩ : ∃ M, leS j V W y = M := ⟨_, rfl⟩
            have g1 : L < r := by rw [← hL]; exact HL.out.1
            have g2 : r ≤ M := by rw [← hM]; exact HL.out.2
            rw [hL, hM]
            have HLL := hideP hL
            clear hL hM b1 b2 b3 b4 b5 HN HS HLT HL
            go_wp2
            go_ret3
            exact ⟨by rw [HLL.out]; rfl, m', rfl⟩
          · have HS2 := hideP (HS.out e0)
            have HE0 := hideP e0
            obtain ⟨L, hL⟩ : ∃ L, ltS j V W y = L := ⟨_, rfl⟩
            obtain ⟨M, hM⟩ : ∃ M, leS j V W y = M := ⟨_, rfl⟩
            rw [hL, hM] at HN
            rw [hL, hM]
            clear hL hM b1 b2 b3 b4 b5 HS HLT HL e0
            by_cases g1 : L < r
            · have g2 : ¬ r ≤ M := fun g2 => HE0.out (HN.out g1 g2)
              go_wp2
              go_roundw
              case rel => exact ⟨k + 1, _, by omega, by go_num, HS2, rfl⟩
              case measure => simp [intOf]; omega
            · go_wp2
              go_roundw
              case rel => exact ⟨k + 1, _, by omega, by go_num, HS2, rfl⟩
              case measure => simp [intOf]; omega
    · exfalso
      obtain ⟨j, hj, _, h⟩ := rth_there NN.out HL.out.1 HL.out.2
      exact HK.out j (by omega) h
end Go.Proofs.Qxb6603801a
