import Derived.Test.Qxb6603801aBase
import Derived.Deep.QuietTactic
import Derived.BigQuiet
namespace Go.Proofs.Qxb6603801a
open Go.RowKit
set_option linter.unusedVariables false
set_option linter.unusedSimpArgs false

theorem bytes6 (a1 a2 : Option Addr) (n1 n2 c1 c2 : Nat) (r : Int) (w : World) (h1 : n1 ≤ maxLen) (h2 : n2 ≤ maxLen) :
    Calls Try.prog 6 #[.slice a1 n1 c1, .slice a2 n2 c2, .int .i64 r] w fun e w' => (∃ b, e = .returned (.bool b) ∧ (n1 + n2 ≤ 1048576 → b = true)) ∧ w' = w := by
  unfold maxLen at h1 h2
  by_cases e1 : 1048576 < n1
  · go_enter Try.func6, Try.ntmps6
    go_wp2
    go_ret
    exact ⟨⟨_, rfl, by omega⟩, rfl⟩
  by_cases e2 : 1048576 < n2
  · go_enter Try.func6, Try.ntmps6
    go_wp2
    go_ret
    exact ⟨⟨_, rfl, by omega⟩, rfl⟩
  by_cases e3 : 1048576 < n1 + n2
  · go_enter Try.func6, Try.ntmps6
    go_wp2
    go_ret
    exact ⟨⟨_, rfl, by omega⟩, rfl⟩
  · go_enter Try.func6, Try.ntmps6
    go_wp2
    go_ret
    exact ⟨⟨_, rfl, fun _ => rfl⟩, rfl⟩

theorem bytes11 (a1 a2 : Option Addr) (n1 n2 c1 c2 : Nat) (r : Int) (w : World) (h1 : n1 ≤ maxLen) (h2 : n2 ≤ maxLen) :
    Calls Try.prog 11 #[.slice a1 n1 c1, .slice a2 n2 c2, .int .i64 r] w fun e w' => (∃ b, e = .returned (.bool b) ∧ (n1 + n2 ≤ 1048576 → b = true)) ∧ w' = w := by
  unfold maxLen at h1 h2
  by_cases e1 : 1048576 < n1
  · go_enter Try.func11, Try.ntmps11
    go_wp2
    go_ret
    exact ⟨⟨_, rfl, by omega⟩, rfl⟩
  by_cases e2 : 1048576 < n2
  · go_enter Try.func11, Try.ntmps11
    go_wp2
    go_ret
    exact ⟨⟨_, rfl, by omega⟩, rfl⟩
  by_cases e3 : 1048576 < n1 + n2
  · go_enter Try.func11, Try.ntmps11
    go_wp2
    go_ret
    exact ⟨⟨_, rfl, by omega⟩, rfl⟩
  · go_enter Try.func11, Try.ntmps11
    go_wp2
    go_ret
    exact ⟨⟨_, rfl, fun _ => rfl⟩, rfl⟩

-- What ssDomain tells: false; or the lengths are one, no weight is below nought, they sum to 'total' without overflow, and r lies in 1 .. total.
def DomRes (n1 n2 : Nat) (W : Nat → Int) (r : Int) (e : Ending) : Prop :=
  (∃ x, e = .returned (.tuple #[.int .i64 x, .bool false])) ∨
  (e = .returned (.tuple #[.int .i64 (sm n2 W), .bool true]) ∧ n1 = n2 ∧ (∀ j, j < n2 → 0 ≤ W j) ∧ sm n2 W ≤ 9223372036854775807 ∧ 1 ≤ r ∧ r ≤ sm n2 W)

set_option maxHeartbeats 1000000 in
theorem domain_any (a1 a2 : Option Addr) (n1 n2 c1 c2 : Nat) (W : Nat → Int) (r : Int) (w : World) (h1 : n1 ≤ 4096) (h2 : n2 ≤ 4096) (hr : -9223372036854775808 ≤ r ∧ r ≤ 9223372036854775807) (hb : ∀ j, j < n2 → W j ≤ 9223372036854775807) (hc : Came w a2 n2 W) :
    Calls Try.prog 7 #[.slice a1 n1 c1, .slice a2 n2 c2, .int .i64 r] w fun e w' => DomRes n1 n2 W r e ∧ w' = w := by
  have HC := hideP hc
  have HB := hideP hb
  obtain ⟨hr0, hr3⟩ := hr
  clear hc hb
  by_cases hne : n1 = n2
  · subst hne
    go_enter Try.func7, Try.ntmps7
    go_wp2
    go_loop [8, 9] (fun t i => ∃ k : Nat, k ≤ n1 ∧ i = .int .i64 k ∧ t = .int .i64 (sm k W) ∧ Hid (∀ j, j < k → 0 ≤ W j) ∧ sm k W ≤ 9223372036854775807) (fun _ i => n1 - (intOf i).toNat)
    case atStart => exact ⟨0, by omega, rfl, rfl, hideP (by omega), by simp [sm]⟩
    case round =>
      obtain ⟨k, hk, rfl, rfl, HK, hs⟩ := hrel
      have hs0 := sm_nonneg HK.out
      by_cases hlt : k < n1
      · obtain ⟨b, off, rfl, hcell⟩ := HC.out.at (by omega)
        have q0 := hcell k hlt
        have HS : Hid (sm (k + 1) W = sm k W + W k) := sm_succ k W
        obtain ⟨x, hx⟩ : ∃ x, W k = x := ⟨_, rfl⟩
        obtain ⟨S, hS⟩ : ∃ S, sm k W = S := ⟨_, rfl⟩
        have hx9 := HB.out k hlt
        rw [hx] at q0 HS hx9
        rw [hS] at HS hs hs0 ⊢
        have HX := hideP hx
        clear hcell hx hS
        by_cases e1 : x < 0
        · go_wp2
          go_ret2
          exact ⟨.inl ⟨_, rfl⟩, rfl⟩
        · by_cases e2 : 9223372036854775807 - S < x
          · go_wp2
            go_ret2
            exact ⟨.inl ⟨_, rfl⟩, rfl⟩
          · go_wp2
            go_round
            case rel =>
              refine ⟨k + 1, by omega, by go_num, by rw [HS.out], hideP fun j hj => ?_, by rw [HS.out]; omega⟩
              by_cases e : j = k
              · rw [e, HX.out]; omega
              · exact HK.out j (by omega)
            case measure => simp [intOf]; omega
      · have hkn : k = n1 := by omega
        subst hkn
        have HD : Hid (1 ≤ r → r ≤ sm k W → DomRes k k W r (.returned (.tuple #[.int .i64 (sm k W), .bool true]))) := fun a b => .inr ⟨rfl, rfl, HK.out, hs, a, b⟩
        obtain ⟨S, hS⟩ : ∃ S, sm k W = S := ⟨_, rfl⟩
        rw [hS] at hs hs0 HD ⊢
        clear hS
        by_cases e1 : r < 1
        · go_wp2
          go_ret2
          exact ⟨.inl ⟨_, rfl⟩, rfl⟩
        · by_cases e2 : S < r
          · go_wp2
            go_ret2
            exact ⟨.inl ⟨_, rfl⟩, rfl⟩
          · go_wp2
            go_ret2
            exact ⟨HD.out (by omega) (by omega), rfl⟩
  · have hne2 : ((n1 : Int) == (n2 : Int)) = false := by simp; omega
    go_enter Try.func7, Try.ntmps7
    go_wp2
    go_ret2
    exact ⟨.inl ⟨_, rfl⟩, rfl⟩

end Go.Proofs.Qxb6603801a
