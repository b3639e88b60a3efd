import Derived.Test.Qxb6003438aVe
import Derived.Test.Qxb6003438aItoa
import Derived.Room.AppendFits
import Derived.Deep.WholeRow
namespace Go.Proofs.Qxb6003438a
open Go.RowKit
set_option linter.unusedVariables false
set_option linter.unusedSimpArgs false

theorem bytes12 (vs : Array Value) (a : Int) (v : Int) (s : ByteArray) (b c : Bool) (w : World) (hs : s.size ≤ maxLen) :
    Calls Try.prog 12 #[.agg vs, .int .u64 a, .int .i32 v, .string s, .bool b, .bool c] w fun e w' => e = .returned (.bool (decide (s.size ≤ 1048576))) ∧ w' = w.alloc (.cells vs 22) := by
  unfold maxLen at hs
  by_cases h : s.size ≤ 1048576
  · go_enter Try.func12, Try.ntmps12
    go_wp2
    go_ret
    exact ⟨by simp [h], rfl⟩
  · go_enter Try.func12, Try.ntmps12
    go_wp2
    go_ret
    exact ⟨by simp [h], rfl⟩

theorem Try.size22 : (Try.prog.info? 22).map (·.size) = some 30 := by kernel_rfl

set_option maxHeartbeats 1000000 in
theorem law_early (vs : Array Value) (hvs : vs.size = 30) (a v : Int) (s : ByteArray) (b c : Bool) (w : World) (hs : s.size ≤ maxLen) (ha : 0 ≤ a)
    (h : 65536 < s.size ∨ 20 ≤ a ∨ v < -99999999 ∨ 99999999 < v ∨ (b = true ∧ 9 < s.size)) :
    Calls Try.prog 4 #[.agg vs, .int .u64 a, .int .i32 v, .string s, .bool b, .bool c] w fun e w' => e = .returned (.bool true) ∧ Below w.heap.size w w' := by
  have hi : (Try.prog.info? 22).map (·.size) = some vs.size := by rw [hvs]; exact Try.size22
  clear hvs
  have hs' := hs
  unfold maxLen at hs'
  have hB : Below w.heap.size w ((w.alloc (.cells vs 22)).alloc (.cells vs 22)) := ((Below.refl _ _).alloc (Nat.le_refl _) _).alloc (by simp) _
  by_cases h1 : 1048576 < s.size
  · have hd : decide (s.size ≤ 1048576) = false := by simp; omega
    clear h
    go_enter Try.func4, Try.ntmps4
    go_wp2_with (first | (refine wpList_load_row rfl 22 (.tmp 6) rfl w.heap.size rfl 22 vs (0, 0) _ (heap_alloc_new w _) Try.underlying22 rfl hi ?_) | (go_at_call 12; refine (bytes12 vs a v s b c _ hs).mono ?_; rintro e w' ⟨rfl, rfl⟩; rw [hd]))
    go_ret
    exact ⟨rfl, hB⟩
  have hd : decide (s.size ≤ 1048576) = true := by simp; omega
  by_cases h2 : 65536 < s.size
  · clear h
    go_enter Try.func4, Try.ntmps4
    go_wp2_with (first | (refine wpList_load_row rfl 22 (.tmp 6) rfl w.heap.size rfl 22 vs (0, 0) _ (heap_alloc_new w _) Try.underlying22 rfl hi ?_) | (go_at_call 12; refine (bytes12 vs a v s b c _ hs).mono ?_; rintro e w' ⟨rfl, rfl⟩; rw [hd]))
    go_ret
    exact ⟨rfl, hB⟩
  by_cases h3 : 20 ≤ a
  · clear h
    go_enter Try.func4, Try.ntmps4
    go_wp2_with (first | (refine wpList_load_row rfl 22 (.tmp 6) rfl w.heap.size rfl 22 vs (0, 0) _ (heap_alloc_new w _) Try.underlying22 rfl hi ?_) | (go_at_call 12; refine (bytes12 vs a v s b c _ hs).mono ?_; rintro e w' ⟨rfl, rfl⟩; rw [hd]))
    go_ret
    exact ⟨rfl, hB⟩
  by_cases h4 : v < -99999999
  · clear h
    go_enter Try.func4, Try.ntmps4
    go_wp2_with (first | (refine wpList_load_row rfl 22 (.tmp 6) rfl w.heap.size rfl 22 vs (0, 0) _ (heap_alloc_new w _) Try.underlying22 rfl hi ?_) | (go_at_call 12; refine (bytes12 vs a v s b c _ hs).mono ?_; rintro e w' ⟨rfl, rfl⟩; rw [hd]))
    go_ret
    exact ⟨rfl, hB⟩
  by_cases h5 : 99999999 < v
  · clear h
    go_enter Try.func4, Try.ntmps4
    go_wp2_with (first | (refine wpList_load_row rfl 22 (.tmp 6) rfl w.heap.size rfl 22 vs (0, 0) _ (heap_alloc_new w _) Try.underlying22 rfl hi ?_) | (go_at_call 12; refine (bytes12 vs a v s b c _ hs).mono ?_; rintro e w' ⟨rfl, rfl⟩; rw [hd]))
    go_ret
    exact ⟨rfl, hB⟩
  · obtain ⟨rfl, h6⟩ : b = true ∧ 9 < s.size := by rcases h with h | h | h | h | h <;> first | omega | exact h
    go_enter Try.func4, Try.ntmps4
    go_wp2_with (first | (refine wpList_load_row rfl 22 (.tmp 6) rfl w.heap.size rfl 22 vs (0, 0) _ (heap_alloc_new w _) Try.underlying22 rfl hi ?_) | (go_at_call 12; refine (bytes12 vs a v s true c _ hs).mono ?_; rintro e w' ⟨rfl, rfl⟩; rw [hd]))
    go_ret
    exact ⟨rfl, hB⟩

theorem wpList_store_new {P : Program} {ops : Array Oper} {rest : List Oper} {o : Oper} {a : Act} {w : World} {Q : Exit → Act → World → Prop} (hgd : o.guard = none) (ty : TypeId) (x y : Operand) (ho : o.op = .store ty x y)
    (c c' : Array Value) (hx : a.eval x = .pointer (some ⟨w.heap.size, 0, none⟩)) (hy : a.eval y = .agg c') (hi : (P.info? ty).map (·.size) = some c'.size) (hsz : c.size = c'.size) (h1 : c'.all (·.oneCell') = true)
    (h : wpList P ops Q rest (a.put o.dst undef) (w.alloc (.cells c' ty))) : wpList P ops Q (o :: rest) a (w.alloc (.cells c ty)) := by
  refine wpList_plain hgd fun K hK => ?_
  unfold Oper.wp execOp
  simp only [ho, hx, hy, run_storeAt_new w ty c c' hi hsz h1, Sem.run_bind, Sem.run_pure, Result.andThen_ok]
  exact hK _ _ h

end Go.Proofs.Qxb6003438a
