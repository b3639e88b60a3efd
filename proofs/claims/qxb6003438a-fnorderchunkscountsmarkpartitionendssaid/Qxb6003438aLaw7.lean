import Derived.Test.Qxb6003438aLaw6
import Derived.Deep.QuietTactic
import Derived.BigQuiet
namespace Go.Proofs.Qxb6003438a
open Go.RowKit
set_option linter.unusedVariables false
set_option linter.unusedSimpArgs false

theorem law7_long (a : Option Addr) (len cap : Nat) (w : World) (hl : len ≤ maxLen) (h : 4096 < len) :
    Calls Try.prog 7 #[.slice a len cap] w fun e w' => e = .returned (.bool true) ∧ Below w.heap.size w w' := by
  have hl' := hl
  unfold maxLen at hl'
  by_cases h1 : len ≤ 1048576
  · have hd : decide (len ≤ 1048576) = true := by simpa using h1
    go_enter Try.func7, Try.ntmps7
    go_wp2_with (go_at_call 17; refine (bytes17 a len cap _ hl).mono ?_; rintro e w' ⟨rfl, rfl⟩; rw [hd])
    go_ret
    exact ⟨rfl, Below.refl _ _⟩
  · have hd : decide (len ≤ 1048576) = false := by simpa using h1
    go_enter Try.func7, Try.ntmps7
    go_wp2_with (go_at_call 17; refine (bytes17 a len cap _ hl).mono ?_; rintro e w' ⟨rfl, rfl⟩; rw [hd])
    go_ret
    exact ⟨rfl, Below.refl _ _⟩

set_option maxRecDepth 20000 in
set_option maxHeartbeats 1000000 in
theorem law7_main (a : Option Addr) (len cap : Nat) (f : Nat → Int) (w : World) (hl : len ≤ 4096) (hcap : a = none → cap = 0) (hc : Came w a len f) :
    Calls Try.prog 7 #[.slice a len cap] w fun e w' => e = .returned (.bool true) ∧ Below w.heap.size w w' := by
  have hd : decide (len ≤ 1048576) = true := by simp; omega
  have HC := hideP hc
  have HCAP := hideP hcap
  clear hc hcap
  go_enter Try.func7, Try.ntmps7
  go_wp2_with (go_at_call 17; refine (bytes17 a len cap _ (by unfold maxLen; omega)).mono ?_; rintro e w' ⟨rfl, rfl⟩; rw [hd])
  go_loop [3] (fun i => ∃ k : Nat, k ≤ len ∧ i = .int .i64 k ∧ Hid (∀ j, j < k → 0 ≤ f j ∧ f j < 512)) (fun i => len - (intOf i).toNat)
  case atStart => exact ⟨0, by omega, rfl, hideP (by omega)⟩
  case round =>
    obtain ⟨k, hk, rfl, HK⟩ := hrel
    by_cases hlt : k < len
    · obtain ⟨b, off, rfl, hcell⟩ := HC.out.at (by omega)
      have q0 := hcell k hlt
      obtain ⟨x, hx⟩ : ∃ x, f k = x := ⟨_, rfl⟩
      rw [hx] at q0
      have HX := hideP hx
      clear hcell hx
      by_cases h1 : x < 0
      · go_wp2
        go_ret
        exact ⟨rfl, Below.refl _ _⟩
      · by_cases h2 : 512 ≤ x
        · go_wp2
          go_ret
          exact ⟨rfl, Below.refl _ _⟩
        · go_wp2
          go_round
          case rel =>
            refine ⟨k + 1, by omega, by go_num, hideP fun j hj => ?_⟩
            by_cases e : j = k
            · rw [e, HX.out]; omega
            · exact HK.out j (by omega)
          case measure => simp [intOf]; omega
    · have hkl : k = len := by omega
      subst hkl
      clear hlt hk
      go_wp2_with fail
      refine (clone_any a k cap f _ (by omega) HCAP.out HC.out).mono ?_
      rintro e w1 ⟨ap, rfl, hg1, hr1⟩
      have HG1 := hideP hg1
      have HR1 := hideP hr1
      clear hg1 hr1
      go_wp2_with fail
      have C1 := hideP (clone_any ap k k f w1 (by omega) (clone_cap HR1.out) (clone_came HR1.out))
      refine C1.out.mono ?_
      rintro e w2 ⟨aq, rfl, hg2, hr2⟩
      have C2 := hideP (zz_law hl HK.out HG1.out HR1.out hg2 hr2)
      clear hg2 hr2 HG1 HR1 C1
      go_wp2_with fail
      refine C2.out.mono ?_
      rintro e w3 ⟨b1, c1, b3, c3, co, ao, rfl, hc1, hc3, AF⟩
      obtain ⟨p, hpe⟩ : ∃ p : Nat → Nat, (fun i => (f i).toNat) = p := ⟨_, rfl⟩
      rw [hpe] at AF
      have HP : Hid (∀ i, i < k → p i < 512) := fun i hi => by rw [← hpe]; have := HK.out i hi; show (f i).toNat < 512; omega
      have HAF := hideP AF
      have z0 : w3.cell? ⟨b1, 0, none⟩ = some (.int .i32 0) := by rw [AF.1 0 (by omega), cL_zero]; rfl
      have z1 : w3.cell? ⟨b1, 512, none⟩ = some (.int .i32 k) := by rw [AF.1 512 (by omega), cL_full p k 512 HP.out]
      clear AF C2 hpe HK
      go_wp2
      go_loopw [8] (fun v wr => ∃ q m : Nat, q ≤ 512 ∧ v = .int .i64 q ∧ wr = w3.drewN m) (fun v _ => 512 - (intOf v).toNat)
      case atStart => exact ⟨0, 0, by omega, rfl, rfl⟩
      case round =>
        obtain ⟨q, m, hq, rfl, rfl⟩ := hrel
        by_cases hq2 : q < 512
        · have a1 := HAF.out.1 q (by omega)
          have a2 := HAF.out.1 (q + 1) (by omega)
          have a3 := HAF.out.2.1 q hq2
          have hxy := cL_mono p k (show q ≤ q + 1 by omega)
          have hyk := cL_le p k (q + 1)
          obtain ⟨x, hx⟩ : ∃ x, cL p k q = x := ⟨_, rfl⟩
          obtain ⟨y, hy⟩ : ∃ y, cL p k (q + 1) = y := ⟨_, rfl⟩
          rw [hx] at a1 hxy
          rw [hy] at a2 a3 hxy hyk
          have HX := hideP hx
          have HY := hideP hy
          have d1 : decide ((y : Int) < (x : Int)) = false := by simp; omega
          have d2 : decide ((k : Int) < (y : Int)) = false := by simp; omega
          have i0 : (0 : Int) ≤ (q : Int) := by omega
          have i1 : (q : Int) < 513 := by omega
          have i2 : (q : Int) + 1 < 513 := by omega
          have i3 : (q : Int) < 512 := by omega
          have i4 : (0 : Int) ≤ (q : Int) + 1 := by omega
          have hw : IntKind.i64.wrap ((q : Int) + 1) = (q : Int) + 1 := by rw [IntKind.wrap_i64]; omega
          have hwk : IntKind.i32.wrap (k : Int) = (k : Int) := by rw [IntKind.wrap_i32]; omega
          have hn1 : ((q : Int) + 1).toNat = q + 1 := by omega
          clear hx hy
          go_wp2
          go_quiet (fail)
          go_wp2
          go_quiet (fail)
          go_wp2
          clear d1 d2 i0 i1 i2 i3 i4 hwk a1 a3
          go_loop [9] (fun v => ∃ t : Nat, x ≤ t ∧ t ≤ y ∧ v = .int .i32 t) (fun v => y - (intOf v).toNat)
          case atStart => exact ⟨x, by omega, hxy, rfl⟩
          case round =>
            obtain ⟨t, ht1, ht2, rfl⟩ := hrel
            by_cases hlt : t < y
            · obtain ⟨_, _, hA, hB, _⟩ := HAF.out
              rcases hA with h0 | ⟨b2, rfl, ho⟩
              · omega
              rcases hB with h0 | ⟨rfl, hpc⟩
              · omega
              obtain ⟨i0, hi0, hpi, hpos0⟩ := pos_hit p (n := k) (k := t) (j := q) (by rw [HX.out]; exact ht1) (by rw [HY.out]; exact hlt)
              have o0 := ho i0 hi0
              rw [hpos0] at o0
              have p0 := hpc i0 hi0
              rw [hpi] at p0
              clear ho hpc hpos0 hpi
              go_wp2
              go_round
              case rel => exact ⟨t + 1, by omega, by omega, by go_num⟩
              case measure => simp [intOf]; omega
            · have hty : t = y := by omega
              subst hty
              go_wp2
              go_roundw
              case rel => exact ⟨q + 1, _, by omega, by go_num, rfl⟩
              case measure => simp [intOf]; omega
        · have hq3 : q = 512 := by omega
          subst hq3
          go_wp2
          go_ret
          have hb := HAF.out.2.2.2.2
          exact ⟨rfl, hb.os, hb.tape, hb.output, hb.size, hb.block⟩
end Go.Proofs.Qxb6003438a
