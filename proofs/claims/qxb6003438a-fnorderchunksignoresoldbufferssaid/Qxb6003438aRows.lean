/-
  No cell of these rows narrows 'for every input' (looked for: loops, veiled, ifaces, maps, wideKeys, modest, calm, conditions, laid).
  DERIVED. THE GIVEN ROWS OF THIS SEAT. 7 by the template 'for every input the law returns true; each argument reads behind the call as it read before'; 0 by the template 'total and deterministic' (their statements: Qxb6003438aTotals.lean).
  GIVEN WITH THE SEED: the statements are not yours to turn. If you find one false, say at which input.
  Laid BY PROGRAM, IN A SANDBOX (cutbox-rows.mjs): the forced cells as the released guide's own fill.sh prints them over the translation dcfce51bc0670d38… (all of the seat's roots in one cut). By AI agents, Wed Nov 11 2026. No macro, syntax, notation, axiom, sorry.
-/
import Derived.Test.Qxb6003438aChecked
import GoSem.Claim
import GoSem.ClaimJoined
import GoSem.ClaimMapViews
import Derived.JoinedTies
import Derived.KernelRfl
namespace Go.Proofs.Qxb6003438a
/- THE CELL 'sum', in the pinned program and in every row, IS THE sha256 OF THE DUMP (.gsa) THAT Qxb6003438aProg.lean LOADS. Nothing in Lean hashes anything: it is a label: what it is worth is what the hold of that sum in a sandbox is worth. -/
noncomputable def Try.pinned : Pinned := { name := "qxb6003438a", sum := "dcfce51bc0670d38cf30e1702f4f743cf5b11026317abdb34500b9f8ab58b17d", checked := Try.checked }
namespace Rows
def none {H : Type} : Left H := { results := [], args := [] }

/-- 'zzlaws_pkg_bencode_b1.FnValueEndMatchesGrammarModel': WHATEVER THE INPUT: true; the input reads as it did. -/
def fnValueEndMatchesGrammarModelSpec : ChangeSpec := { name := "fnValueEndMatchesGrammarModel", fn := fun _ => fun
  | [d1, d2, d3] => { results := [.lit (.bool true)], args := [d1, d2, d3] }
  | _ => none }
def fnValueEndMatchesGrammarModelRow : OpenClaim := { program := "qxb6003438a", sum := "dcfce51bc0670d38cf30e1702f4f743cf5b11026317abdb34500b9f8ab58b17d", func := "example.com/lodestone/lodestone/zzlaws_pkg_bencode_b1.FnValueEndMatchesGrammarModel", spec := "fnValueEndMatchesGrammarModel", apart := false }
def FnValueEndMatchesGrammarModelSaid : Prop := fnValueEndMatchesGrammarModelRow.holds Try.pinned (OpenSpec.ofChange fnValueEndMatchesGrammarModelSpec)

/-- ITS FALSE NEIGHBOUR: 'it returns false'. Refute it at one input. -/
def fnValueEndMatchesGrammarModelWrong : ChangeSpec := { name := "fnValueEndMatchesGrammarModel", fn := fun _ => fun
  | [d1, d2, d3] => { results := [.lit (.bool false)], args := [d1, d2, d3] }
  | _ => none }
def FnValueEndMatchesGrammarModelWrongFalsely : Prop := fnValueEndMatchesGrammarModelRow.holds Try.pinned (OpenSpec.ofChange fnValueEndMatchesGrammarModelWrong)

/-- 'zzlaws_pkg_bencode_b1.FnValueEndFindsEndOfEncodedValue': WHATEVER THE INPUT: true; the input reads as it did. -/
def fnValueEndFindsEndOfEncodedValueSpec : ChangeSpec := { name := "fnValueEndFindsEndOfEncodedValue", fn := fun _ => fun
  | [d1, d2, d3, d4, d5, d6] => { results := [.lit (.bool true)], args := [d1, d2, d3, d4, d5, d6] }
  | _ => none }
def fnValueEndFindsEndOfEncodedValueRow : OpenClaim := { program := "qxb6003438a", sum := "dcfce51bc0670d38cf30e1702f4f743cf5b11026317abdb34500b9f8ab58b17d", func := "example.com/lodestone/lodestone/zzlaws_pkg_bencode_b1.FnValueEndFindsEndOfEncodedValue", spec := "fnValueEndFindsEndOfEncodedValue", apart := false }
def FnValueEndFindsEndOfEncodedValueSaid : Prop := fnValueEndFindsEndOfEncodedValueRow.holds Try.pinned (OpenSpec.ofChange fnValueEndFindsEndOfEncodedValueSpec)

/-- ITS FALSE NEIGHBOUR: 'it returns false'. Refute it at one input. -/
def fnValueEndFindsEndOfEncodedValueWrong : ChangeSpec := { name := "fnValueEndFindsEndOfEncodedValue", fn := fun _ => fun
  | [d1, d2, d3, d4, d5, d6] => { results := [.lit (.bool false)], args := [d1, d2, d3, d4, d5, d6] }
  | _ => none }
def FnValueEndFindsEndOfEncodedValueWrongFalsely : Prop := fnValueEndFindsEndOfEncodedValueRow.holds Try.pinned (OpenSpec.ofChange fnValueEndFindsEndOfEncodedValueWrong)

/-- 'zzlaws_pkg_bencode_b1.FnValueEndReadsOnlyItsValue': WHATEVER THE INPUT: true; the input reads as it did. -/
def fnValueEndReadsOnlyItsValueSpec : ChangeSpec := { name := "fnValueEndReadsOnlyItsValue", fn := fun _ => fun
  | [d1, d2, d3, d4] => { results := [.lit (.bool true)], args := [d1, d2, d3, d4] }
  | _ => none }
def fnValueEndReadsOnlyItsValueRow : OpenClaim := { program := "qxb6003438a", sum := "dcfce51bc0670d38cf30e1702f4f743cf5b11026317abdb34500b9f8ab58b17d", func := "example.com/lodestone/lodestone/zzlaws_pkg_bencode_b1.FnValueEndReadsOnlyItsValue", spec := "fnValueEndReadsOnlyItsValue", apart := false }
def FnValueEndReadsOnlyItsValueSaid : Prop := fnValueEndReadsOnlyItsValueRow.holds Try.pinned (OpenSpec.ofChange fnValueEndReadsOnlyItsValueSpec)

/-- ITS FALSE NEIGHBOUR: 'it returns false'. Refute it at one input. -/
def fnValueEndReadsOnlyItsValueWrong : ChangeSpec := { name := "fnValueEndReadsOnlyItsValue", fn := fun _ => fun
  | [d1, d2, d3, d4] => { results := [.lit (.bool false)], args := [d1, d2, d3, d4] }
  | _ => none }
def FnValueEndReadsOnlyItsValueWrongFalsely : Prop := fnValueEndReadsOnlyItsValueRow.holds Try.pinned (OpenSpec.ofChange fnValueEndReadsOnlyItsValueWrong)

/-- 'zzlaws_pkg_bencode_b1.FnOrderChunksIsStableCountingSort': WHATEVER THE INPUT: true; the input reads as it did. -/
def fnOrderChunksIsStableCountingSortSpec : ChangeSpec := { name := "fnOrderChunksIsStableCountingSort", fn := fun _ => fun
  | [d] => { results := [.lit (.bool true)], args := [d] }
  | _ => none }
def fnOrderChunksIsStableCountingSortRow : OpenClaim := { program := "qxb6003438a", sum := "dcfce51bc0670d38cf30e1702f4f743cf5b11026317abdb34500b9f8ab58b17d", func := "example.com/lodestone/lodestone/zzlaws_pkg_bencode_b1.FnOrderChunksIsStableCountingSort", spec := "fnOrderChunksIsStableCountingSort", apart := false }
def FnOrderChunksIsStableCountingSortSaid : Prop := fnOrderChunksIsStableCountingSortRow.holds Try.pinned (OpenSpec.ofChange fnOrderChunksIsStableCountingSortSpec)

/-- ITS FALSE NEIGHBOUR: 'it returns false'. Refute it at one input. -/
def fnOrderChunksIsStableCountingSortWrong : ChangeSpec := { name := "fnOrderChunksIsStableCountingSort", fn := fun _ => fun
  | [d] => { results := [.lit (.bool false)], args := [d] }
  | _ => none }
def FnOrderChunksIsStableCountingSortWrongFalsely : Prop := fnOrderChunksIsStableCountingSortRow.holds Try.pinned (OpenSpec.ofChange fnOrderChunksIsStableCountingSortWrong)

/-- 'zzlaws_pkg_bencode_b1.FnOrderChunksCountsMarkPartitionEnds': WHATEVER THE INPUT: true; the input reads as it did. -/
def fnOrderChunksCountsMarkPartitionEndsSpec : ChangeSpec := { name := "fnOrderChunksCountsMarkPartitionEnds", fn := fun _ => fun
  | [d] => { results := [.lit (.bool true)], args := [d] }
  | _ => none }
def fnOrderChunksCountsMarkPartitionEndsRow : OpenClaim := { program := "qxb6003438a", sum := "dcfce51bc0670d38cf30e1702f4f743cf5b11026317abdb34500b9f8ab58b17d", func := "example.com/lodestone/lodestone/zzlaws_pkg_bencode_b1.FnOrderChunksCountsMarkPartitionEnds", spec := "fnOrderChunksCountsMarkPartitionEnds", apart := false }
def FnOrderChunksCountsMarkPartitionEndsSaid : Prop := fnOrderChunksCountsMarkPartitionEndsRow.holds Try.pinned (OpenSpec.ofChange fnOrderChunksCountsMarkPartitionEndsSpec)

/-- ITS FALSE NEIGHBOUR: 'it returns false'. Refute it at one input. -/
def fnOrderChunksCountsMarkPartitionEndsWrong : ChangeSpec := { name := "fnOrderChunksCountsMarkPartitionEnds", fn := fun _ => fun
  | [d] => { results := [.lit (.bool false)], args := [d] }
  | _ => none }
def FnOrderChunksCountsMarkPartitionEndsWrongFalsely : Prop := fnOrderChunksCountsMarkPartitionEndsRow.holds Try.pinned (OpenSpec.ofChange fnOrderChunksCountsMarkPartitionEndsWrong)

/-- 'zzlaws_pkg_bencode_b1.FnOrderChunksIgnoresOldBuffers': WHATEVER THE INPUT: true; the input reads as it did. -/
def fnOrderChunksIgnoresOldBuffersSpec : ChangeSpec := { name := "fnOrderChunksIgnoresOldBuffers", fn := fun _ => fun
  | [d1, d2, d3, d4] => { results := [.lit (.bool true)], args := [d1, d2, d3, d4] }
  | _ => none }
def fnOrderChunksIgnoresOldBuffersRow : OpenClaim := { program := "qxb6003438a", sum := "dcfce51bc0670d38cf30e1702f4f743cf5b11026317abdb34500b9f8ab58b17d", func := "example.com/lodestone/lodestone/zzlaws_pkg_bencode_b1.FnOrderChunksIgnoresOldBuffers", spec := "fnOrderChunksIgnoresOldBuffers", apart := false }
def FnOrderChunksIgnoresOldBuffersSaid : Prop := fnOrderChunksIgnoresOldBuffersRow.holds Try.pinned (OpenSpec.ofChange fnOrderChunksIgnoresOldBuffersSpec)

/-- ITS FALSE NEIGHBOUR: 'it returns false'. Refute it at one input. -/
def fnOrderChunksIgnoresOldBuffersWrong : ChangeSpec := { name := "fnOrderChunksIgnoresOldBuffers", fn := fun _ => fun
  | [d1, d2, d3, d4] => { results := [.lit (.bool false)], args := [d1, d2, d3, d4] }
  | _ => none }
def FnOrderChunksIgnoresOldBuffersWrongFalsely : Prop := fnOrderChunksIgnoresOldBuffersRow.holds Try.pinned (OpenSpec.ofChange fnOrderChunksIgnoresOldBuffersWrong)

/-- 'zzlaws_pkg_bencode_b1.FnKindAgreesWithValueEnd': WHATEVER THE INPUT: true; the input reads as it did. -/
def fnKindAgreesWithValueEndSpec : ChangeSpec := { name := "fnKindAgreesWithValueEnd", fn := fun _ => fun
  | [d1, d2, d3] => { results := [.lit (.bool true)], args := [d1, d2, d3] }
  | _ => none }
def fnKindAgreesWithValueEndRow : OpenClaim := { program := "qxb6003438a", sum := "dcfce51bc0670d38cf30e1702f4f743cf5b11026317abdb34500b9f8ab58b17d", func := "example.com/lodestone/lodestone/zzlaws_pkg_bencode_b1.FnKindAgreesWithValueEnd", spec := "fnKindAgreesWithValueEnd", apart := false }
def FnKindAgreesWithValueEndSaid : Prop := fnKindAgreesWithValueEndRow.holds Try.pinned (OpenSpec.ofChange fnKindAgreesWithValueEndSpec)

/-- ITS FALSE NEIGHBOUR: 'it returns false'. Refute it at one input. -/
def fnKindAgreesWithValueEndWrong : ChangeSpec := { name := "fnKindAgreesWithValueEnd", fn := fun _ => fun
  | [d1, d2, d3] => { results := [.lit (.bool false)], args := [d1, d2, d3] }
  | _ => none }
def FnKindAgreesWithValueEndWrongFalsely : Prop := fnKindAgreesWithValueEndRow.holds Try.pinned (OpenSpec.ofChange fnKindAgreesWithValueEndWrong)

end Rows
end Go.Proofs.Qxb6003438a
