import Derived.Test.Qxb6003438aRows
import Derived.Test.Qxb6003438aCnt
import Derived.WalkKit
import Derived.WalkSpells
import Derived.WalkLawsBesides
import Derived.Deep.OwnRows
namespace Go.Proofs.Qxb6003438a
open Go.RowKit
set_option linter.unusedVariables false
set_option linter.unusedSimpArgs false

theorem Try.info21 : (Try.prog.info? 21).map (fun i => (i.zero, i.size, i.bytes)) = some (some (.int .i32 0), 1, 4) := by kernel_rfl

-- A row of int32s, its content by the index.
abbrev ints (f : Nat → Int) : Nat → Value := fun i => .int .i32 (f i)

theorem clone_nil (w : World) : Calls Try.prog 15 #[.slice none 0 0] w fun e w' => e = .returned (.slice none 0 0) ∧ w' = w := by
  have hq := fun w => Lib.run_eql_slice_nil (P := Try.prog) w 32 21 none 0 0 0 0 Try.underlying32
  go_enter Try.func15, Try.ntmps15
  go_wp2
  go_ret
  exact ⟨rfl, rfl⟩

-- What the copying loop keeps.
def CloneInv (w : World) (len : Nat) (f : Nat → Int) (i : Value) (wr : World) : Prop :=
  ∃ (k : Nat) (h : Nat → Int), k ≤ len ∧ i = .int .i64 k ∧ wr.rowIs w.heap.size 21 len (ints h) ∧ (∀ j, j < k → h j = f j) ∧ wr.heap.size = w.heap.size + 1 ∧ Below w.heap.size w wr

theorem clone_row (b off len cap : Nat) (f : Nat → Int) (w : World) (hl : len ≤ 1048576) (hc : ∀ i, i < len → w.cell? ⟨b, off + i, none⟩ = some (.int .i32 (f i))) :
    Calls Try.prog 15 #[.slice (some ⟨b, off, none⟩) len cap] w fun e w' => e = .returned (.slice (some ⟨w.heap.size, 0, none⟩) len len) ∧
      w'.rowIs w.heap.size 21 len (ints f) ∧ w'.heap.size = w.heap.size + 1 ∧ Below w.heap.size w w' := by
  have hq := fun w => Lib.run_eql_slice_nil (P := Try.prog) w 32 21 (some ⟨b, off, none⟩) len cap 0 0 Try.underlying32
  have hmk := run_make_row' (P := Try.prog) 32 21 (.int .i32 0) 4 Try.underlying32 Try.info21 rfl .i64 .i64 len (by omega) (by omega)
  have HC : Hid (∀ i, i < len → w.cell? ⟨b, off + i, none⟩ = some (.int .i32 (f i))) := hc
  clear hc
  go_enter Try.func15, Try.ntmps15
  go_wp2
  go_loopw [4] (fun i wr => CloneInv w len f i wr) (fun i _ => len - (intOf i).toNat)
  case atStart => exact ⟨0, fun _ => 0, by omega, rfl, World.rowIs_made w _ len 21, by omega, by simp, (Below.refl _ _).alloc (Nat.le_refl _) _⟩
  case round =>
    unfold CloneInv at hrel
    obtain ⟨k, h, hk, rfl, hrow, hh, hsz, hbel⟩ := hrel
    by_cases hlt : k < len
    · have hb : b < w.heap.size := World.block_lt_of_cell? w _ (HC.out k hlt)
      have hc1 : wr.cell? ⟨b, off + k, none⟩ = some (.int .i32 (f k)) := (hbel.cell hb).trans (HC.out k hlt)
      have hc2 := hrow.cell hlt
      have hc3 := hrow.frozen k
      have R : CloneInv w len f (.int .i64 ((k : Int) + 1)) (wr.setCell ⟨w.heap.size, k, none⟩ (.int .i32 (f k))) := by
        refine ⟨k + 1, fun j => if j = k then f k else h j, by omega, by go_num, ?_, ?_, by simpa [World.setCell] using hsz, hbel.setCell (Nat.le_refl _) _⟩
        · refine (hrow.set k _).congr fun j hj => ?_
          dsimp only [ints]
          split <;> rfl
        · intro j hj
          dsimp only
          split
          · rename_i e; rw [e]
          · exact hh j (by omega)
      clear hrow hh hsz hbel hb
      go_wp2
      go_roundw
      case rel => exact R
      case measure => simp [intOf]; omega
    · have hkl : k = len := by omega
      subst hkl
      have R : wr.rowIs w.heap.size 21 k (ints f) := hrow.congr fun j hj => by simp only [ints, hh j hj]
      have HZ : Hid (wr.heap.size = w.heap.size + 1) := hsz
      clear hrow hh hsz
      go_wp2
      go_ret
      exact ⟨rfl, R, HZ.out, hbel⟩
end Go.Proofs.Qxb6003438a
