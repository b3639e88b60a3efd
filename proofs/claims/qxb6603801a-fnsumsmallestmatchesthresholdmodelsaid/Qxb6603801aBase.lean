import Derived.Test.Qxb6603801aRows
import Derived.Test.Qxb6603801aSm
import Derived.WalkKit
import Derived.WalkSpells
import Derived.WalkLawsBesides
import Derived.Deep.OwnRows
namespace Go.Proofs.Qxb6603801a
open Go.RowKit
set_option linter.unusedVariables false
set_option linter.unusedSimpArgs false

theorem hideP {p : Prop} (h : p) : Hid p := h

/-! ### Steps of the world, all by 'grownBy' -/
theorem grown_setCell (w : World) (a : Addr) (u : Value) : w.grownBy (w.setCell a u) (some a.block) :=
  ⟨rfl, rfl, rfl, by simp [World.setCell], fun k _ hk => Below.heap_setCell _ _ _ _ (fun e => hk (by rw [e]))⟩
theorem grown_drew (w : World) (row : Option Nat) : w.grownBy w.drew row := ⟨rfl, rfl, rfl, Nat.le_refl _, fun _ _ _ => rfl⟩
theorem grown_then {w w1 w2 : World} {row : Option Nat} (h1 : w.grownBy w1 none) (h2 : w1.grownBy w2 row) : w.grownBy w2 row :=
  ⟨h2.os.trans h1.os, h2.tape.trans h1.tape, h2.output.trans h1.output, Nat.le_trans h1.size h2.size, fun k hk hr => (h2.block k (Nat.lt_of_lt_of_le hk h1.size) hr).trans (h1.block k hk (by simp))⟩
theorem grown_draw {w w1 : World} {row : Option Nat} (h1 : w.grownBy w1 row) : w.grownBy w1.drew row :=
  ⟨h1.os, h1.tape, h1.output, h1.size, h1.block⟩
theorem row_grown {w w' : World} {b t n : Nat} {f : Nat → Value} {row : Option Nat} (h : w.rowIs b t n f) (hg : w.grownBy w' row) (hne : row ≠ some b) : w'.rowIs b t n f :=
  h.of_block (hg.block b h.lt (fun e => hne e.symm))

-- All that was there, but for the blocks that may turn, is as it was.
structure Kept (X : Nat → Prop) (w w' : World) : Prop where
  os : w'.os = w.os
  tape : w'.tape = w.tape
  output : w'.output = w.output
  size : w.heap.size ≤ w'.heap.size
  block : ∀ k, k < w.heap.size → ¬ X k → w'.heap[k]? = w.heap[k]?

theorem Kept.refl (X : Nat → Prop) (w : World) : Kept X w w := ⟨rfl, rfl, rfl, Nat.le_refl _, fun _ _ _ => rfl⟩
theorem Kept.grown {X : Nat → Prop} {a w w' : World} {row : Option Nat} (h : Kept X a w) (hg : w.grownBy w' row) (hr : ∀ k, row = some k → X k) : Kept X a w' :=
  ⟨hg.os.trans h.os, hg.tape.trans h.tape, hg.output.trans h.output, Nat.le_trans h.size hg.size, fun k hk hx => (hg.block k (Nat.lt_of_lt_of_le hk h.size) (fun e => hx (hr k e.symm))).trans (h.block k hk hx)⟩
theorem Kept.setCell {X : Nat → Prop} {a w : World} (h : Kept X a w) {p : Addr} (hp : X p.block) (u : Value) : Kept X a (w.setCell p u) := h.grown (grown_setCell w p u) (fun k e => by cases e; exact hp)
theorem Kept.below {B : Nat} {w w' : World} (h : Kept (fun k => B ≤ k) w w') (hB : B ≤ w.heap.size) : Below B w w' := ⟨h.os, h.tape, h.output, h.size, fun k hk => h.block k (by omega) (by omega)⟩

theorem Try.info3 : (Try.prog.info? 3).map (fun i => (i.zero, i.size, i.bytes)) = some (some (.int .i64 0), 1, 8) := by kernel_rfl

-- A row of ints, its content by the index.
abbrev ints (f : Nat → Int) : Nat → Value := fun i => .int .i64 (f i)

theorem clone_nil (w : World) : Calls Try.prog 8 #[.slice none 0 0] w fun e w' => e = .returned (.slice none 0 0) ∧ w' = w := by
  have hq := fun w => Lib.run_eql_slice_nil (P := Try.prog) w 22 3 none 0 0 0 0 Try.underlying22
  go_enter Try.func8, Try.ntmps8
  go_wp2
  go_ret
  exact ⟨rfl, rfl⟩

-- What the copying loop keeps.
def CloneInv (w : World) (len : Nat) (f : Nat → Int) (i : Value) (wr : World) : Prop :=
  ∃ (k : Nat) (h : Nat → Int), k ≤ len ∧ i = .int .i64 k ∧ wr.rowIs w.heap.size 3 len (ints h) ∧ (∀ j, j < k → h j = f j) ∧ wr.heap.size = w.heap.size + 1 ∧ Below w.heap.size w wr

theorem clone_row (b off len cap : Nat) (f : Nat → Int) (w : World) (hl : len ≤ 1048576) (hc : ∀ i, i < len → w.cell? ⟨b, off + i, none⟩ = some (.int .i64 (f i))) :
    Calls Try.prog 8 #[.slice (some ⟨b, off, none⟩) len cap] w fun e w' => e = .returned (.slice (some ⟨w.heap.size, 0, none⟩) len len) ∧
      w'.rowIs w.heap.size 3 len (ints f) ∧ w'.heap.size = w.heap.size + 1 ∧ Below w.heap.size w w' := by
  have hq := fun w => Lib.run_eql_slice_nil (P := Try.prog) w 22 3 (some ⟨b, off, none⟩) len cap 0 0 Try.underlying22
  have hmk := run_make_row' (P := Try.prog) 22 3 (.int .i64 0) 8 Try.underlying22 Try.info3 rfl .i64 .i64 len (by omega) (by omega)
  have HC : Hid (∀ i, i < len → w.cell? ⟨b, off + i, none⟩ = some (.int .i64 (f i))) := hc
  clear hc
  go_enter Try.func8, Try.ntmps8
  go_wp2
  go_loopw [4] (fun i wr => CloneInv w len f i wr) (fun i _ => len - (intOf i).toNat)
  case atStart => exact ⟨0, fun _ => 0, by omega, rfl, World.rowIs_made w _ len 3, by omega, by simp, (Below.refl _ _).alloc (Nat.le_refl _) _⟩
  case round =>
    unfold CloneInv at hrel
    obtain ⟨k, h, hk, rfl, hrow, hh, hsz, hbel⟩ := hrel
    by_cases hlt : k < len
    · have hb : b < w.heap.size := World.block_lt_of_cell? w _ (HC.out k hlt)
      have hc1 : wr.cell? ⟨b, off + k, none⟩ = some (.int .i64 (f k)) := (hbel.cell hb).trans (HC.out k hlt)
      have hc2 := hrow.cell hlt
      have hc3 := hrow.frozen k
      have R : CloneInv w len f (.int .i64 ((k : Int) + 1)) (wr.setCell ⟨w.heap.size, k, none⟩ (.int .i64 (f k))) := by
        refine ⟨k + 1, fun j => if j = k then f k else h j, by omega, by go_num, ?_, ?_, by simpa [World.setCell] using hsz, hbel.setCell (Nat.le_refl _) _⟩
        · refine (hrow.set k _).congr fun j hj => ?_
          dsimp only [ints]
          split <;> rfl
        · intro j hj
          dsimp only
          split
          · rename_i e; rw [e]
          · exact hh j (by omega)
      clear hrow hh hsz hbel hb
      go_wp2
      go_roundw
      case rel => exact R
      case measure => simp [intOf]; omega
    · have hkl : k = len := by omega
      subst hkl
      have R : wr.rowIs w.heap.size 3 k (ints f) := hrow.congr fun j hj => by simp only [ints, hh j hj]
      have HZ : Hid (wr.heap.size = w.heap.size + 1) := hsz
      clear hrow hh hsz
      go_wp2
      go_ret
      exact ⟨rfl, R, HZ.out, hbel⟩
-- A slice of ints as it came in: its first 'len' cells hold f.
def Came (w : World) (a : Option Addr) (len : Nat) (f : Nat → Int) : Prop :=
  (a = none ∧ len = 0) ∨ ∃ x, a = some x ∧ ∀ i, i < len → w.cell? (x.add i) = some (.int .i64 (f i))

theorem Came.grown {w w' : World} {a : Option Addr} {len : Nat} {f : Nat → Int} (h : Came w a len f) (hg : w.grownBy w' none) : Came w' a len f := by
  rcases h with h | ⟨x, e, h⟩
  · exact .inl h
  · exact .inr ⟨x, e, fun i hi => hg.cell (h i hi) (by simp)⟩

theorem clone_empty (x : Addr) (cap : Nat) (w : World) :
    Calls Try.prog 8 #[.slice (some x) 0 cap] w fun e w' => e = .returned (.slice (some ⟨w.heap.size, 0, none⟩) 0 0) ∧ w' = w.alloc (.cells (madeCells #[.int .i64 0] 0) 3) := by
  have hq := fun w => Lib.run_eql_slice_nil (P := Try.prog) w 22 3 (some x) 0 cap 0 0 Try.underlying22
  have hmk : ∀ w, (Instr.makeSlice 22 (.int .i64 0) (.int .i64 0)).run Try.prog w = .ok (.slice (some ⟨w.heap.size, 0, none⟩) 0 0) (w.alloc (.cells (madeCells #[.int .i64 0] 0) 3)) := run_make_row' (P := Try.prog) 22 3 (.int .i64 0) 8 Try.underlying22 Try.info3 rfl .i64 .i64 0 (by omega) (by omega)
  obtain ⟨M, hM⟩ : ∃ M, madeCells #[.int .i64 0] 0 = M := ⟨_, rfl⟩
  rw [hM] at hmk ⊢
  clear hM
  go_enter Try.func8, Try.ntmps8
  go_wp2
  go_loop [4] (fun i => i = .int .i64 0) (fun i => 0)
  case atStart => rfl
  case round =>
    subst hrel
    go_wp2
    go_ret
    exact ⟨rfl, rfl⟩

theorem clone_any (a : Option Addr) (len cap : Nat) (f : Nat → Int) (w : World) (hl : len ≤ 1048576) (hcap : a = none → cap = 0) (h : Came w a len f) :
    Calls Try.prog 8 #[.slice a len cap] w fun e w' => ∃ ap, e = .returned (.slice ap len len) ∧ w.grownBy w' none ∧
      (ap = none ∧ len = 0 ∨ ap = some ⟨w.heap.size, 0, none⟩ ∧ w'.rowIs w.heap.size 3 len (ints f)) := by
  rcases h with ⟨rfl, rfl⟩ | ⟨x, rfl, hc⟩
  · obtain rfl := hcap rfl
    refine (clone_nil w).mono fun e w' ⟨he, hw⟩ => ?_
    subst he hw
    exact ⟨none, rfl, World.grownBy.refl _ _, .inl ⟨rfl, rfl⟩⟩
  · by_cases h0 : len = 0
    · subst h0
      refine (clone_empty x cap w).mono fun e w' ⟨he, hw⟩ => ?_
      subst he hw
      exact ⟨_, rfl, World.grownBy_alloc _ _ _, .inr ⟨rfl, (World.rowIs_made w _ 0 3).congr (by omega)⟩⟩
    · obtain ⟨b, off, spot⟩ := x
      have hspot : spot = none := by simpa [Addr.add] using World.cell?_spot (hc 0 (by omega))
      subst hspot
      refine (clone_row b off len cap f w hl (fun i hi => by have := hc i hi; rwa [Addr.add_lit] at this)).mono fun e w' ⟨he, hr, hs, hb⟩ => ?_
      subst he
      exact ⟨_, rfl, ⟨hb.os, hb.tape, hb.output, hb.size, fun k hk _ => hb.block k hk⟩, .inr ⟨rfl, hr⟩⟩

-- A cell of a slice that came in, as the walk spells it.
theorem Came.at {w : World} {a : Option Addr} {len : Nat} {f : Nat → Int} (h : Came w a len f) (h0 : 0 < len) : ∃ b off, a = some ⟨b, off, none⟩ ∧ ∀ i, i < len → w.cell? ⟨b, off + i, none⟩ = some (.int .i64 (f i)) := by
  rcases h with ⟨_, h⟩ | ⟨⟨b, off, spot⟩, rfl, hc⟩
  · omega
  · have hspot : spot = none := by simpa [Addr.add] using World.cell?_spot (hc 0 h0)
    subst hspot
    exact ⟨b, off, rfl, fun i hi => by have := hc i hi; rwa [Addr.add_lit] at this⟩

theorem ints_cell {w : World} {b c i : Nat} {f : Nat → Int} (h : w.rowIs b 3 c (ints f)) (hi : i < c) : w.cell? ⟨b, i, none⟩ = some (.int .i64 (f i)) := h.cell hi

theorem w_add (a b : Int) : wrap64 (wrap64 a + wrap64 b) = wrap64 (a + b) := by unfold wrap64; omega
theorem w_sub (a b : Int) : wrap64 (wrap64 a - wrap64 b) = wrap64 (a - b) := by unfold wrap64; omega
theorem w_in (a : Int) (h1 : -9223372036854775808 ≤ a) (h2 : a ≤ 9223372036854775807) : wrap64 a = a := by unfold wrap64; omega

end Go.Proofs.Qxb6603801a
