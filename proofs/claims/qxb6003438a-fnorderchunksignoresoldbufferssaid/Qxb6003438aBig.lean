import Derived.Test.Qxb6003438aOrd2
import Derived.KernelRfl
namespace Go.Proofs.Qxb6003438a
open Go.RowKit
set_option linter.unusedVariables false
set_option linter.unusedSimpArgs false

-- A bigSet made of four fields: all else is zero.
theorem build_big : ∃ Z : Array Value, Z.size = 1040 ∧ ∀ (a1 a2 a3 a4 : Option Addr) (n1 c1 n2 c2 n3 c3 n4 c4 : Nat) (w : World),
    (Instr.build 64 #[(9, .slice a1 n1 c1), (10, .slice a2 n2 c2), (11, .slice a3 n3 c3), (6, .slice a4 n4 c4)]).run Try.prog w =
      .ok (.agg ((((Z.setIfInBounds 1036 (.slice a1 n1 c1)).setIfInBounds 1037 (.slice a2 n2 c2)).setIfInBounds 1038 (.slice a3 n3 c3)).setIfInBounds 1029 (.slice a4 n4 c4))) w := by
  refine ⟨(((Try.prog.info? 64).bind (·.zero)).map Value.cells).getD #[], by kernel_rfl, fun a1 a2 a3 a4 n1 c1 n2 c2 n3 c3 n4 c4 w => by kernel_rfl⟩

end Go.Proofs.Qxb6003438a
