import Derived.Test.Qxb6003438aOrd4
import Derived.Below
namespace Go.Proofs.Qxb6003438a
open Go.RowKit
set_option linter.unusedVariables false
set_option linter.unusedSimpArgs false

-- A slice of int32s as it came in: its first 'len' cells hold f.
def Came (w : World) (a : Option Addr) (len : Nat) (f : Nat → Int) : Prop :=
  (a = none ∧ len = 0) ∨ ∃ x, a = some x ∧ ∀ i, i < len → w.cell? (x.add i) = some (.int .i32 (f i))

theorem Came.grown {w w' : World} {a : Option Addr} {len : Nat} {f : Nat → Int} (h : Came w a len f) (hg : w.grownBy w' none) : Came w' a len f := by
  rcases h with h | ⟨x, e, h⟩
  · exact .inl h
  · exact .inr ⟨x, e, fun i hi => hg.cell (h i hi) (by simp)⟩

theorem clone_empty (x : Addr) (cap : Nat) (w : World) :
    Calls Try.prog 15 #[.slice (some x) 0 cap] w fun e w' => e = .returned (.slice (some ⟨w.heap.size, 0, none⟩) 0 0) ∧ w' = w.alloc (.cells (madeCells #[.int .i32 0] 0) 21) := by
  have hq := fun w => Lib.run_eql_slice_nil (P := Try.prog) w 32 21 (some x) 0 cap 0 0 Try.underlying32
  have hmk : ∀ w, (Instr.makeSlice 32 (.int .i64 0) (.int .i64 0)).run Try.prog w = .ok (.slice (some ⟨w.heap.size, 0, none⟩) 0 0) (w.alloc (.cells (madeCells #[.int .i32 0] 0) 21)) := run_make_row' (P := Try.prog) 32 21 (.int .i32 0) 4 Try.underlying32 Try.info21 rfl .i64 .i64 0 (by omega) (by omega)
  obtain ⟨M, hM⟩ : ∃ M, madeCells #[.int .i32 0] 0 = M := ⟨_, rfl⟩
  rw [hM] at hmk ⊢
  clear hM
  go_enter Try.func15, Try.ntmps15
  go_wp2
  go_loop [4] (fun i => i = .int .i64 0) (fun i => 0)
  case atStart => rfl
  case round =>
    subst hrel
    go_wp2
    go_ret
    exact ⟨rfl, rfl⟩

theorem clone_any (a : Option Addr) (len cap : Nat) (f : Nat → Int) (w : World) (hl : len ≤ 1048576) (hcap : a = none → cap = 0) (h : Came w a len f) :
    Calls Try.prog 15 #[.slice a len cap] w fun e w' => ∃ ap, e = .returned (.slice ap len len) ∧ w.grownBy w' none ∧
      (ap = none ∧ len = 0 ∨ ap = some ⟨w.heap.size, 0, none⟩ ∧ w'.rowIs w.heap.size 21 len (ints f)) := by
  rcases h with ⟨rfl, rfl⟩ | ⟨x, rfl, hc⟩
  · obtain rfl := hcap rfl
    refine (clone_nil w).mono fun e w' ⟨he, hw⟩ => ?_
    subst he hw
    exact ⟨none, rfl, World.grownBy.refl _ _, .inl ⟨rfl, rfl⟩⟩
  · by_cases h0 : len = 0
    · subst h0
      refine (clone_empty x cap w).mono fun e w' ⟨he, hw⟩ => ?_
      subst he hw
      exact ⟨_, rfl, World.grownBy_alloc _ _ _, .inr ⟨rfl, (World.rowIs_made w _ 0 21).congr (by omega)⟩⟩
    · obtain ⟨b, off, spot⟩ := x
      have hspot : spot = none := by simpa [Addr.add] using World.cell?_spot (hc 0 (by omega))
      subst hspot
      refine (clone_row b off len cap f w hl (fun i hi => by have := hc i hi; rwa [Addr.add_lit] at this)).mono fun e w' ⟨he, hr, hs, hb⟩ => ?_
      subst he
      exact ⟨_, rfl, ⟨hb.os, hb.tape, hb.output, hb.size, fun k hk _ => hb.block k hk⟩, .inr ⟨rfl, hr⟩⟩

theorem bytes14 (a : Option Addr) (len cap : Nat) (w : World) (hl : len ≤ maxLen) :
    Calls Try.prog 14 #[.slice a len cap] w fun e w' => e = .returned (.bool (decide (len ≤ 1048576))) ∧ w' = w := by
  unfold maxLen at hl
  by_cases h : len ≤ 1048576
  · go_enter Try.func14, Try.ntmps14
    go_wp2
    go_ret
    exact ⟨by simp [h], rfl⟩
  · go_enter Try.func14, Try.ntmps14
    go_wp2
    go_ret
    exact ⟨by simp [h], rfl⟩

theorem bytes17 (a : Option Addr) (len cap : Nat) (w : World) (hl : len ≤ maxLen) :
    Calls Try.prog 17 #[.slice a len cap] w fun e w' => e = .returned (.bool (decide (len ≤ 1048576))) ∧ w' = w := by
  unfold maxLen at hl
  by_cases h : len ≤ 1048576
  · go_enter Try.func17, Try.ntmps17
    go_wp2
    go_ret
    exact ⟨by simp [h], rfl⟩
  · go_enter Try.func17, Try.ntmps17
    go_wp2
    go_ret
    exact ⟨by simp [h], rfl⟩

end Go.Proofs.Qxb6003438a
