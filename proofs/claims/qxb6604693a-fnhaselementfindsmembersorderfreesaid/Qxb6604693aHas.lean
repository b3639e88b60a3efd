import Derived.Test.Qxb6604693aRows
import Derived.WalkKit
import Derived.WalkSpells
import Derived.WalkLawsBesides
import Derived.Deep.OwnRows
import Derived.Deep.QuietTactic
import Derived.BigQuiet
namespace Go.Proofs.Qxb6604693a
open Go.RowKit
set_option linter.unusedVariables false
set_option linter.unusedSimpArgs false

theorem hideP {p : Prop} (h : p) : Hid p := h

-- Are two strings one? As the model reckons it.
def eqB (a b : ByteArray) : Bool := a.toList == b.toList
-- Does one of the first n strings equal s?
def hasB : Nat → (Nat → ByteArray) → ByteArray → Bool
  | 0, _, _ => false
  | n + 1, F, s => hasB n F s || eqB (F n) s

-- The first 'n' strings that a slice leads to.
def Strs (w : World) (a : Option Addr) (n : Nat) (F : Nat → ByteArray) : Prop :=
  n = 0 ∨ ∃ b off, a = some ⟨b, off, none⟩ ∧ ∀ i, i < n → w.cell? ⟨b, off + i, none⟩ = some (.string (F i))

theorem hasB_iff (n : Nat) (F : Nat → ByteArray) (s : ByteArray) : hasB n F s = true ↔ ∃ i, i < n ∧ eqB (F i) s = true := by
  induction n with
  | zero => simp [hasB]
  | succ n ih =>
    simp only [hasB, Bool.or_eq_true, ih]
    constructor
    · rintro (⟨i, hi, h⟩ | h)
      · exact ⟨i, by omega, h⟩
      · exact ⟨n, by omega, h⟩
    · rintro ⟨i, hi, h⟩
      by_cases e : i = n
      · right; rw [← e]; exact h
      · left; exact ⟨i, by omega, h⟩

theorem eqB_iff (a b : ByteArray) : eqB a b = true ↔ a = b := by
  unfold eqB
  rw [beq_iff_eq, ByteArray.toList_eq, ByteArray.toList_eq]
  exact ⟨fun h => ByteArray.ext (Array.toList_inj.mp h), fun h => by rw [h]⟩

theorem eqB_self (a : ByteArray) : eqB a a = true := (eqB_iff a a).2 rfl

-- Two are alike in what they hold if what one has the other has.
theorem hasB_congr {n m : Nat} {F G : Nat → ByteArray} {s : ByteArray} (h1 : ∀ i, i < n → ∃ j, j < m ∧ G j = F i) (h2 : ∀ j, j < m → ∃ i, i < n ∧ F i = G j) : hasB n F s = hasB m G s := by
  rw [Bool.eq_iff_iff, hasB_iff, hasB_iff]
  constructor
  · rintro ⟨i, hi, h⟩
    obtain ⟨j, hj, e⟩ := h1 i hi
    exact ⟨j, hj, by rw [e]; exact h⟩
  · rintro ⟨j, hj, h⟩
    obtain ⟨i, hi, e⟩ := h2 j hj
    exact ⟨i, hi, by rw [e]; exact h⟩

set_option maxHeartbeats 400000 in
theorem has_any (a : Option Addr) (n c : Nat) (F : Nat → ByteArray) (s : ByteArray) (w : World) (hn : n ≤ 1048576) (h : Strs w a n F) :
    Calls Try.prog 7 #[.slice a n c, .string s] w fun e w' => e = .returned (.bool (hasB n F s)) ∧ w' = w := by
  have HS := hideP h
  clear h
  go_enter Try.func7, Try.ntmps7
  go_wp2
  go_loop [9] (fun i => ∃ k : Nat, k ≤ n ∧ i = .int .i64 k ∧ Hid (hasB k F s = false)) (fun i => n - (intOf i).toNat)
  case atStart => exact ⟨0, by omega, rfl, hideP rfl⟩
  case round =>
    obtain ⟨k, hk, rfl, HK⟩ := hrel
    by_cases hlt : k < n
    · rcases HS.out with h0 | ⟨b, off, rfl, hc⟩
      · omega
      have q0 := hc k hlt
      have HX : Hid (eqB (F k) s = true → hasB n F s = true) := fun h => (hasB_iff n F s).2 ⟨k, hlt, h⟩
      have HY : Hid (eqB (F k) s = false → hasB (k + 1) F s = false) := fun h => by simp [hasB, HK.out, h]
      obtain ⟨x, hx⟩ : ∃ x, F k = x := ⟨_, rfl⟩
      rw [hx] at q0 HX HY
      clear hc hx
      by_cases e : (x.toList == s.toList) = true
      · have HZ := hideP (HX.out e)
        go_wp2
        go_ret
        exact ⟨by rw [HZ.out]; rfl, rfl⟩
      · have e' : (x.toList == s.toList) = false := by simpa using e
        have HZ := hideP (HY.out e')
        clear e
        go_wp2
        go_round
        case rel => exact ⟨k + 1, by omega, by go_num, HZ⟩
        case measure => simp [intOf]; omega
    · have hkn : k = n := by omega
      subst hkn
      go_wp2
      go_ret
      exact ⟨by rw [HK.out]; rfl, rfl⟩

theorem eqB_bytes (a b : ByteArray) (h : a.size = b.size) (hb : ∀ i (h1 : i < a.size) (h2 : i < b.size), a[i] = b[i]) : eqB a b = true := by
  rw [eqB_iff]
  apply ByteArray.ext
  apply Array.ext
  · exact h
  · intro i h1 h2; exact hb i h1 h2
theorem eqB_byte {a b : ByteArray} {i : Nat} (h1 : i < a.size) (h2 : i < b.size) (hne : a[i] ≠ b[i]) : eqB a b = false := by
  cases h : eqB a b
  · rfl
  · have := (eqB_iff a b).1 h
    subst this
    exact absurd rfl hne
theorem eqB_size {a b : ByteArray} (hne : a.size ≠ b.size) : eqB a b = false := by
  cases h : eqB a b
  · rfl
  · have := (eqB_iff a b).1 h
    subst this
    exact absurd rfl hne

set_option maxHeartbeats 400000 in
theorem same_any (a b : ByteArray) (w : World) (ha : a.size ≤ 1048576) (hb : b.size ≤ 1048576) :
    Calls Try.prog 8 #[.string a, .string b] w fun e w' => e = .returned (.bool (eqB a b)) ∧ ∃ m, w' = w.drewN m := by
  by_cases hsz : a.size = b.size
  · have hn : ((a.size : Int) == (b.size : Int)) = true := by simp; omega
    have HZ := hideP hsz
    clear hsz
    go_enter Try.func8, Try.ntmps8
    go_wp2
    go_loopw [5] (fun i wr => ∃ k m : Nat, k ≤ a.size ∧ i = .int .i64 k ∧ Hid (∀ i (h1 : i < a.size) (h2 : i < b.size), i < k → a[i] = b[i]) ∧ wr = w.drewN m) (fun i _ => a.size - (intOf i).toNat)
    case atStart => exact ⟨0, 0, by omega, rfl, hideP (by intro i _ _ h; omega), rfl⟩
    case round =>
      obtain ⟨k, m, hk, rfl, HK, rfl⟩ := hrel
      by_cases hlt : k < a.size
      · have hlt2 : k < b.size := by have := HZ.out; omega
        have i0 : (0 : Int) ≤ (k : Int) := by omega
        have i1 : (k : Int) < (a.size : Int) := by omega
        have i2 : (k : Int) < (b.size : Int) := by omega
        by_cases e : a[k] = b[k]
        · have e1 : ((a[k].toNat : Int) == (b[k].toNat : Int)) = true := by rw [e]; simp
          have HE := hideP e
          clear e
          go_wp2
          go_quiet (fail)
          go_wp2
          go_roundw
          case rel =>
            refine ⟨k + 1, _, by omega, by go_num, hideP ?_, rfl⟩
            intro i h1 h2 hi
            by_cases e : i = k
            · subst e; exact HE.out
            · exact HK.out i h1 h2 (by omega)
          case measure => simp [intOf]; omega
        · have e1 : ((a[k].toNat : Int) == (b[k].toNat : Int)) = false := by
            simp only [beq_eq_false_iff_ne, ne_eq]
            intro h
            exact e (UInt8.toNat_inj.1 (by omega))
          have HE := hideP (eqB_byte hlt hlt2 e)
          clear e
          go_wp2
          go_quiet (fail)
          go_wp2
          go_ret
          exact ⟨by rw [HE.out]; rfl, _, World.drewN_drewN _ _ _⟩
      · have hks : k = a.size := by omega
        subst hks
        have HE : Hid (eqB a b = true) := eqB_bytes a b HZ.out (fun i h1 h2 => HK.out i h1 h2 h1)
        go_wp2
        go_ret
        exact ⟨by rw [HE.out]; rfl, _, rfl⟩
  · have hn : ((a.size : Int) == (b.size : Int)) = false := by simp; omega
    have HZ := hideP (eqB_size hsz)
    clear hsz
    go_enter Try.func8, Try.ntmps8
    go_wp2
    go_ret
    exact ⟨by rw [HZ.out]; rfl, 0, rfl⟩
end Go.Proofs.Qxb6604693a
