import Derived.Test.Qxb6003438aClone
namespace Go.Proofs.Qxb6003438a
open Go.RowKit
set_option linter.unusedVariables false
set_option linter.unusedSimpArgs false

theorem grown_new (a : Option Addr) (len cap n : Nat) (w : World) (hn : n ≤ 1048576) (hc : cap < n) :
    Calls Try.prog 26 #[.slice a len cap, .int .i64 n] w fun e w' => e = .returned (.slice (some ⟨w.heap.size, 0, none⟩) n n) ∧ w' = w.alloc (.cells (madeCells #[.int .i32 0] n) 21) := by
  have hmk := run_make_row' (P := Try.prog) 32 21 (.int .i32 0) 4 Try.underlying32 Try.info21 rfl .i64 .i64 n (by omega) (by omega)
  go_enter Try.func26, Try.ntmps26
  go_wp2
  go_ret
  exact ⟨rfl, rfl⟩

theorem grown_old (b len cap n : Nat) (w : World) (hn : n ≤ 1048576) (hc : n ≤ cap) (hm : cap ≤ 1048576) :
    Calls Try.prog 26 #[.slice (some ⟨b, 0, none⟩) len cap, .int .i64 n] w fun e w' => e = .returned (.slice (some ⟨b, 0, none⟩) n cap) ∧ w' = w := by
  go_enter Try.func26, Try.ntmps26
  go_wp2
  go_ret
  exact ⟨rfl, rfl⟩

theorem grown_nil (w : World) :
    Calls Try.prog 26 #[.slice none 0 0, .int .i64 0] w fun e w' => e = .returned (.slice none 0 0) ∧ w' = w := by
  go_enter Try.func26, Try.ntmps26
  go_wp2
  go_ret
  exact ⟨rfl, rfl⟩
end Go.Proofs.Qxb6003438a
