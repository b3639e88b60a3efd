import Derived.Test.Qxb6003438aRows
import Derived.WalkKit
import Derived.WalkSpells
namespace Go.Proofs.Qxb6003438a
open Go.RowKit
set_option linter.unusedVariables false
set_option linter.unusedSimpArgs false

theorem ret_int {k : IntKind} {a b : Int} (h : a = b) : Ending.returned (.int k a) = .returned (.int k b) := by rw [h]

set_option maxHeartbeats 400000 in
theorem ve_str (b : Nat) (at_ : Nat) (n : Nat) (c : Bool) (w : World) (h20 : at_ < 20) (hn : n ≤ 9)
    (h0 : w.cell? ⟨b, at_, none⟩ = some (.int .u8 (48 + n))) (h1 : w.cell? ⟨b, at_ + 1, none⟩ = some (.int .u8 58)) :
    Calls Try.prog 21 #[.pointer (some ⟨b, 0, none⟩), .int .u64 at_, .bool c] w fun e w' => e = .returned (.int .u64 ((at_ + 2 + n : Nat) : Int)) ∧ w' = w := by
  have hm : (at_ : Int) % 20 = at_ := by omega
  go_enter Try.func21, Try.ntmps21
  go_wp2
  go_ret
  exact ⟨ret_int (by omega), rfl⟩

-- The integer: 'i' at at_, no sign, k digits, 'e'.
set_option maxHeartbeats 1000000 in
theorem ve_int0 (b : Nat) (at_ k : Nat) (f : Nat → Int) (c : Bool) (w : World) (h20 : at_ < 20) (hk1 : 1 ≤ k) (hk8 : k ≤ 8)
    (hf : ∀ i, i < 30 → w.cell? ⟨b, i, none⟩ = some (.int .u8 (f i)))
    (hi : f at_ = 105)
    (hd : ∀ j, j < k → 48 ≤ f (at_ + 1 + j) ∧ f (at_ + 1 + j) ≤ 57)
    (he : f (at_ + 1 + k) = 101) (h48 : f (at_ + 1) = 48 → k = 1) :
    Calls Try.prog 21 #[.pointer (some ⟨b, 0, none⟩), .int .u64 at_, .bool c] w fun e w' => e = .returned (.int .u64 ((at_ + 1 + k + 1 : Nat) : Int)) ∧ w' = w := by
  have hm : (at_ : Int) % 20 = at_ := by omega
  have hf0 := hf at_ (by omega)
  rw [hi] at hf0
  have hd0 := hd 0 (by omega)
  have hf1 := hf (at_ + 1) (by omega)
  have hfe := hf (at_ + 1 + k) (by omega)
  simp only [Nat.add_zero] at hd0
  rw [he] at hfe
  obtain ⟨x, hx⟩ : ∃ x, f (at_ + 1) = x := ⟨_, rfl⟩
  rw [hx] at hf1 hd0 h48
  have hx1 : 48 ≤ x := hd0.1
  have hx2 : x ≤ 57 := hd0.2
  have hb : (x == 45) = false := by simp; omega
  clear hd0 hi
  have H48 : Hid (x = 48 → k = 1) := h48
  have HF : Hid (∀ i, i < 30 → w.cell? ⟨b, i, none⟩ = some (.int .u8 (f i))) := hf
  have HD : Hid (∀ j, j < k → 48 ≤ f (at_ + 1 + j) ∧ f (at_ + 1 + j) ≤ 57) := hd
  have HE : Hid (f (at_ + 1 + k) = 101) := he
  clear h48 hx hf hd he
  go_enter Try.func21, Try.ntmps21
  go_wp2
  go_loop [9] (fun e => ∃ j : Nat, j ≤ k ∧ e = .int .u64 ((at_ + 1 + j : Nat) : Int)) (fun e => at_ + 1 + k - (intOf e).toNat)
  case atStart => exact ⟨0, by omega, by go_num⟩
  case round =>
    obtain ⟨j, hj, rfl⟩ := hrel
    by_cases hlt : j < k
    · have hc := HF.out (at_ + 1 + j) (by omega)
      have hdj := HD.out j hlt
      obtain ⟨y, hy⟩ : ∃ y, f (at_ + 1 + j) = y := ⟨_, rfl⟩
      rw [hy] at hc hdj
      clear hy
      obtain ⟨hy1, hy2⟩ := hdj
      go_wp2
      go_round
      case rel => exact ⟨j + 1, by omega, by go_num⟩
      case measure => simp [intOf]; omega
    · have hjk : j = k := by omega
      subst hjk
      have hjk1 : (j : Int) ≠ 0 := by omega
      by_cases h8 : j < 8
      · by_cases hx48 : x = 48
        · have hj1 := H48.out hx48
          subst hj1; subst hx48
          go_wp2
          go_ret
          exact ⟨ret_int (by omega), rfl⟩
        · have hb48 : (x == 48) = false := by simpa using hx48
          go_wp2
          go_ret
          exact ⟨ret_int (by omega), rfl⟩
      · have hx48 : ¬ x = 48 := fun h => by have := H48.out h; omega
        have hb48 : (x == 48) = false := by simpa using hx48
        go_wp2
        go_ret
        exact ⟨ret_int (by omega), rfl⟩

-- The integer: 'i' at at_, a sign, k digits, 'e'.
set_option maxHeartbeats 1000000 in
theorem ve_int1 (b : Nat) (at_ k : Nat) (f : Nat → Int) (c : Bool) (w : World) (h20 : at_ < 20) (hk1 : 1 ≤ k) (hk8 : k ≤ 8)
    (hf : ∀ i, i < 30 → w.cell? ⟨b, i, none⟩ = some (.int .u8 (f i)))
    (hi : f at_ = 105) (hsg : f (at_ + 1) = 45)
    (hd : ∀ j, j < k → 48 ≤ f (at_ + 1 + 1 + j) ∧ f (at_ + 1 + 1 + j) ≤ 57)
    (he : f (at_ + 1 + 1 + k) = 101) (h48 : f (at_ + 1 + 1) ≠ 48) :
    Calls Try.prog 21 #[.pointer (some ⟨b, 0, none⟩), .int .u64 at_, .bool c] w fun e w' => e = .returned (.int .u64 ((at_ + 1 + 1 + k + 1 : Nat) : Int)) ∧ w' = w := by
  have hm : (at_ : Int) % 20 = at_ := by omega
  have hf0 := hf at_ (by omega)
  rw [hi] at hf0
  have hd0 := hd 0 (by omega)
  have hfs := hf (at_ + 1) (by omega)
  rw [hsg] at hfs
  have hf1 := hf (at_ + 1 + 1) (by omega)
  have hfe := hf (at_ + 1 + 1 + k) (by omega)
  simp only [Nat.add_zero] at hd0
  rw [he] at hfe
  obtain ⟨x, hx⟩ : ∃ x, f (at_ + 1 + 1) = x := ⟨_, rfl⟩
  rw [hx] at hf1 hd0 h48
  have hx1 : 48 ≤ x := hd0.1
  have hx2 : x ≤ 57 := hd0.2
  have hb48 : (x == 48) = false := by simpa using h48
  clear hd0 hi hsg
  have HF : Hid (∀ i, i < 30 → w.cell? ⟨b, i, none⟩ = some (.int .u8 (f i))) := hf
  have HD : Hid (∀ j, j < k → 48 ≤ f (at_ + 1 + 1 + j) ∧ f (at_ + 1 + 1 + j) ≤ 57) := hd
  have HE : Hid (f (at_ + 1 + 1 + k) = 101) := he
  clear h48 hx hf hd he
  go_enter Try.func21, Try.ntmps21
  go_wp2
  go_loop [9] (fun e => ∃ j : Nat, j ≤ k ∧ e = .int .u64 ((at_ + 1 + 1 + j : Nat) : Int)) (fun e => at_ + 1 + 1 + k - (intOf e).toNat)
  case atStart => exact ⟨0, by omega, by go_num⟩
  case round =>
    obtain ⟨j, hj, rfl⟩ := hrel
    by_cases hlt : j < k
    · have hc := HF.out (at_ + 1 + 1 + j) (by omega)
      have hdj := HD.out j hlt
      obtain ⟨y, hy⟩ : ∃ y, f (at_ + 1 + 1 + j) = y := ⟨_, rfl⟩
      rw [hy] at hc hdj
      clear hy
      obtain ⟨hy1, hy2⟩ := hdj
      go_wp2
      go_round
      case rel => exact ⟨j + 1, by omega, by go_num⟩
      case measure => simp [intOf]; omega
    · have hjk : j = k := by omega
      subst hjk
      have hjk1 : (j : Int) ≠ 0 := by omega
      by_cases h8 : j < 8
      all_goals
        go_wp2
        go_ret
        exact ⟨ret_int (by omega), rfl⟩

end Go.Proofs.Qxb6003438a
