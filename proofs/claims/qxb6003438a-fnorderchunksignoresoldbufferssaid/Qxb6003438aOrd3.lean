import Derived.Test.Qxb6003438aBig
namespace Go.Proofs.Qxb6003438a
open Go.RowKit
set_option linter.unusedVariables false
set_option linter.unusedSimpArgs false

theorem wpList_build_big {ops : Array Oper} {rest : List Oper} {o : Oper} {a : Act} {w : World} {Q : Exit → Act → World → Prop} (hgd : o.guard = none) (x1 x2 x3 x4 : Operand) (ho : o.op = .build 64 #[(9, x1), (10, x2), (11, x3), (6, x4)])
    (a1 a2 a3 a4 : Option Addr) (n1 c1 n2 c2 n3 c3 n4 c4 : Nat) (h1 : a.eval x1 = .slice a1 n1 c1) (h2 : a.eval x2 = .slice a2 n2 c2) (h3 : a.eval x3 = .slice a3 n3 c3) (h4 : a.eval x4 = .slice a4 n4 c4)
    (h : ∀ Z : Array Value, Z.size = 1040 → Z[1036]? = some (.slice a1 n1 c1) → Z[1037]? = some (.slice a2 n2 c2) → Z[1038]? = some (.slice a3 n3 c3) → Z[1029]? = some (.slice a4 n4 c4) → wpList Try.prog ops Q rest (a.put o.dst (.agg Z)) w) :
    wpList Try.prog ops Q (o :: rest) a w := by
  refine wpList_plain hgd fun K hK => ?_
  obtain ⟨Z, hZ, hrun⟩ := build_big
  unfold Oper.wp execOp
  simp only [ho, List.map_toArray, List.map_cons, List.map_nil, h1, h2, h3, h4, hrun, Sem.run_bind, Sem.run_pure, Result.andThen_ok]
  refine hK _ _ (h _ ?_ ?_ ?_ ?_ ?_)
  · simp [hZ]
  · simp [Array.getElem?_setIfInBounds, hZ]
  · simp [Array.getElem?_setIfInBounds, hZ]
  · simp [Array.getElem?_setIfInBounds, hZ]
  · simp [Array.getElem?_setIfInBounds, hZ]

theorem Try.info66 : (Try.prog.info? 66).map (fun i => (i.zero, i.size, i.bytes)) = some (some (.agg #[.int .i64 0, .int .i64 0, .int .i32 0, .int .i32 0]), 4, 24) := by kernel_rfl

theorem make_chunks (n : Nat) (hn : n ≤ 4096) : ∃ M : Array Value, (∀ w : World, (w.alloc (.cells M 66)).rowIs w.heap.size 66 (4 * n) (chk (fun _ => 0))) ∧
    ∀ w, (Instr.makeSlice 45 (.int .i64 n) (.int .i64 n)).run Try.prog w = .ok (.slice (some ⟨w.heap.size, 0, none⟩) n n) (w.alloc (.cells M 66)) := by
  obtain ⟨i0, hi, hz0, hz1, hz2⟩ := info_parts Try.info66
  refine ⟨madeCells #[.int .i64 0, .int .i64 0, .int .i32 0, .int .i32 0] (n * 4), ?_, ?_⟩
  · intro w
    refine ⟨_, heap_alloc_new w _, ?_, ?_⟩
    · rw [size_madeCells]; omega
    · intro i hi
      have hi' : i < n * 4 := by omega
      simp only [madeCells, Array.getElem?_map, Array.getElem?_range, hi', if_true, Option.map_some]
      have h4 : i % 4 = 0 ∨ i % 4 = 1 ∨ i % 4 = 2 ∨ i % 4 = 3 := by omega
      rcases h4 with e | e | e | e <;> simp [chk, e]
  · intro w
    have hr := run_make (P := Try.prog) w 45 66 i0 _ Try.underlying45 hi hz0 .i64 .i64 n n (by omega) (Int.le_refl _) (by rw [hz2]; omega) (by omega)
    simp only [Int.toNat_natCast, hz1] at hr
    exact hr

end Go.Proofs.Qxb6003438a
