import Derived.Test.Qxb6604693aHas
import Derived.Laws.CopyOwn
namespace Go.Proofs.Qxb6604693a
open Go.RowKit
set_option linter.unusedVariables false
set_option linter.unusedSimpArgs false

-- A bool is handed back; where it is true all lengths are small.
def BoolRes (n : Nat) (F : Nat → ByteArray) (s : ByteArray) (e : Ending) : Prop := ∃ b, e = .returned (.bool b) ∧ (b = true → n ≤ 1048576 ∧ s.size ≤ 1048576 ∧ ∀ i, i < n → (F i).size ≤ 1048576)

set_option maxHeartbeats 1000000 in
theorem bytes6 (a : Option Addr) (n c : Nat) (F : Nat → ByteArray) (s : ByteArray) (k : Int) (w : World) (hn : n ≤ maxLen) (hs : s.size ≤ maxLen) (hF : ∀ i, i < n → (F i).size ≤ maxLen) (h : Strs w a n F) :
    Calls Try.prog 6 #[.slice a n c, .string s, .int .i64 k] w fun e w' => BoolRes n F s e ∧ w' = w := by
  have HS := hideP h
  have HF := hideP hF
  unfold maxLen at hn hs
  clear h hF
  by_cases e1 : 1048576 < n
  · go_enter Try.func6, Try.ntmps6
    go_wp2
    go_ret
    exact ⟨⟨_, rfl, by simp⟩, rfl⟩
  · go_enter Try.func6, Try.ntmps6
    go_wp2
    go_loop [7, 8] (fun t i => ∃ (k : Nat) (T : Int), k ≤ n ∧ i = .int .i64 k ∧ t = .int .i64 T ∧ 0 ≤ T ∧ T ≤ 1048576 ∧ Hid (∀ i, i < k → (F i).size ≤ 1048576)) (fun _ i => n - (intOf i).toNat)
    case atStart => exact ⟨0, n, by omega, rfl, by go_num, by omega, by omega, hideP (by omega)⟩
    case round =>
      obtain ⟨k, T, hk, rfl, rfl, hT0, hT1, HK⟩ := hrel
      by_cases hlt : k < n
      · rcases HS.out with h0 | ⟨b, off, rfl, hc⟩
        · omega
        have q0 := hc k hlt
        have hx0 := HF.out k hlt
        have HN : Hid ((F k).size ≤ 1048576 → ∀ i, i < k + 1 → (F i).size ≤ 1048576) := by
          intro h i hi
          by_cases e : i = k
          · rw [e]; exact h
          · exact HK.out i (by omega)
        obtain ⟨x, hx⟩ : ∃ x, F k = x := ⟨_, rfl⟩
        rw [hx] at q0 hx0 HN
        unfold maxLen at hx0
        clear hc hx
        by_cases e2 : 1048576 < x.size
        · go_wp2
          go_ret
          exact ⟨⟨_, rfl, by simp⟩, rfl⟩
        · by_cases e3 : 1048576 < T + x.size
          · go_wp2
            go_ret
            exact ⟨⟨_, rfl, by simp⟩, rfl⟩
          · go_wp2
            go_round
            case rel => exact ⟨k + 1, T + x.size, by omega, by go_num, rfl, by omega, by omega, hideP (HN.out (by omega))⟩
            case measure => simp [intOf]; omega
      · have hkn : k = n := by omega
        subst hkn
        by_cases e2 : 1048576 < s.size
        · go_wp2
          go_ret
          exact ⟨⟨_, rfl, by simp⟩, rfl⟩
        · by_cases e3 : 1048576 < T + s.size
          · go_wp2
            go_ret
            exact ⟨⟨_, rfl, by simp⟩, rfl⟩
          · go_wp2
            go_ret
            exact ⟨⟨_, rfl, fun _ => ⟨by omega, by omega, HK.out⟩⟩, rfl⟩

set_option maxHeartbeats 1000000 in
theorem bytes9 (a : Option Addr) (n c : Nat) (F : Nat → ByteArray) (s : ByteArray) (w : World) (hn : n ≤ maxLen) (hs : s.size ≤ maxLen) (hF : ∀ i, i < n → (F i).size ≤ maxLen) (h : Strs w a n F) :
    Calls Try.prog 9 #[.slice a n c, .string s] w fun e w' => BoolRes n F s e ∧ w' = w := by
  have HS := hideP h
  have HF := hideP hF
  unfold maxLen at hn hs
  clear h hF
  by_cases e1 : 1048576 < n
  · go_enter Try.func9, Try.ntmps9
    go_wp2
    go_ret
    exact ⟨⟨_, rfl, by simp⟩, rfl⟩
  · go_enter Try.func9, Try.ntmps9
    go_wp2
    go_loop [5, 6] (fun t i => ∃ (k : Nat) (T : Int), k ≤ n ∧ i = .int .i64 k ∧ t = .int .i64 T ∧ 0 ≤ T ∧ T ≤ 1048576 ∧ Hid (∀ i, i < k → (F i).size ≤ 1048576)) (fun _ i => n - (intOf i).toNat)
    case atStart => exact ⟨0, n, by omega, rfl, by go_num, by omega, by omega, hideP (by omega)⟩
    case round =>
      obtain ⟨k, T, hk, rfl, rfl, hT0, hT1, HK⟩ := hrel
      by_cases hlt : k < n
      · rcases HS.out with h0 | ⟨b, off, rfl, hc⟩
        · omega
        have q0 := hc k hlt
        have hx0 := HF.out k hlt
        have HN : Hid ((F k).size ≤ 1048576 → ∀ i, i < k + 1 → (F i).size ≤ 1048576) := by
          intro h i hi
          by_cases e : i = k
          · rw [e]; exact h
          · exact HK.out i (by omega)
        obtain ⟨x, hx⟩ : ∃ x, F k = x := ⟨_, rfl⟩
        rw [hx] at q0 hx0 HN
        unfold maxLen at hx0
        clear hc hx
        by_cases e2 : 1048576 < x.size
        · go_wp2
          go_ret
          exact ⟨⟨_, rfl, by simp⟩, rfl⟩
        · by_cases e3 : 1048576 < T + x.size
          · go_wp2
            go_ret
            exact ⟨⟨_, rfl, by simp⟩, rfl⟩
          · go_wp2
            go_round
            case rel => exact ⟨k + 1, T + x.size, by omega, by go_num, rfl, by omega, by omega, hideP (HN.out (by omega))⟩
            case measure => simp [intOf]; omega
      · have hkn : k = n := by omega
        subst hkn
        by_cases e2 : 1048576 < s.size
        · go_wp2
          go_ret
          exact ⟨⟨_, rfl, by simp⟩, rfl⟩
        · by_cases e3 : 1048576 < T + s.size
          · go_wp2
            go_ret
            exact ⟨⟨_, rfl, by simp⟩, rfl⟩
          · go_wp2
            go_ret
            exact ⟨⟨_, rfl, fun _ => ⟨by omega, by omega, HK.out⟩⟩, rfl⟩

end Go.Proofs.Qxb6604693a
