import Derived.Test.Qxb6003438aVeMain
import Derived.ProofKit
import Derived.OpenShut
import Derived.ShutString
import Derived.ChangeOld
namespace Go.Proofs.Qxb6003438a.fnValueEndFindsEndOfEncodedValue
open Go.ChangeShapes Go.WideShapes Go.ChangeAt Go.RowKit
open Go.ChangeMaps (open_string shut_string)
set_option linter.unusedVariables false
set_option linter.unusedSimpArgs false

theorem own : ownKnob Try.prog.godebug = none := by kernel_rfl
theorem laidOut : laidOutB Try.prog = true := by kernel_rfl
theorem cells22 : Try.prog.cellsOf 22 = 30 := by kernel_rfl

theorem walk (vs : Array Value) (f : Nat → Int) (hvs : vs.size = 30) (hf : ∀ i, i < 30 → vs[i]? = some (.int .u8 (f i))) (a v : Int) (ha : 0 ≤ a) (s : ByteArray) (hs : s.size ≤ maxLen) (b c : Bool) (w : World) :
    Calls Try.prog 4 #[.agg vs, .int .u64 a, .int .i32 v, .string s, .bool b, .bool c] w fun e w' => e = .returned (.bool true) ∧ Below w.heap.size w w' := by
  by_cases h : 65536 < s.size ∨ 20 ≤ a ∨ v < -99999999 ∨ 99999999 < v ∨ (b = true ∧ 9 < s.size)
  · exact law_early vs hvs a v s b c w hs ha h
  · obtain ⟨n, rfl⟩ : ∃ n : Nat, a = n := ⟨a.toNat, by omega⟩
    cases b with
    | true => exact law_str vs f hvs hf n v s c w (by omega) (by omega) (by omega) (by simp at h; omega)
    | false =>
      by_cases hv : 0 ≤ v
      · exact law_pos vs f hvs hf n v s c w (by omega) hv (by omega) (by omega)
      · exact law_neg vs f hvs hf n v s c w (by omega) (by omega) (by omega) (by omega)

set_option maxRecDepth 100000 in
theorem lifted (os : Os) (started : os.Started) (H : Type) (enc : TypeId × Value → H) :
    ReturnsInHanded {} Try.checked os 4 .any (Rows.fnValueEndFindsEndOfEncodedValueSpec.pre6 enc Try.prog Try.f4 Rows.fnValueEndFindsEndOfEncodedValueRow.domain false) (Rows.fnValueEndFindsEndOfEncodedValueSpec.post enc Try.prog Try.f4 false true false false) := by
  refine returnsInHanded_of_change (C := Try.checked) own started (by kernel_rfl) Try.func4
    (ChangeSpec.witness6 (enc := enc) (C := Try.checked) false ⟨#[], #[.agg (Array.replicate 30 (.int .u8 0)), .int .u64 0, .int .i32 0, .string ByteArray.empty, .bool false, .bool false], []⟩ 8 (by kernel_rfl) (by kernel_rfl) (by kernel_rfl) (by kernel_rfl)) ?_
  intro W base args ds gs before hval0 hW hcnd _
  have hval : ∀ (j : Nat) t v, Try.f4.params[j]? = some t → args[j]? = some v → Value.okWide Try.prog W .any base t v := hval0
  have hW' := hW
  obtain ⟨p, q, hA0, hV, rfl, hfz, hnd⟩ := hW
  have hA : DataW.TrodAll enc Try.prog W 0 (fun _ => true) true Try.f4.params.toList args.toList ds p := hA0
  rw [Try.params4] at hA hval
  obtain ⟨v0, vs0, d0, ds0, p0, q0, hargs, rfl, rfl, h0, r0⟩ := trodAll_cons hA
  obtain ⟨v1, vs1, d1, ds1, p1, q1, rfl, rfl, rfl, h1, r1⟩ := trodAll_cons r0
  obtain ⟨v2, vs2, d2, ds2, p2, q2, rfl, rfl, rfl, h2, r2⟩ := trodAll_cons r1
  obtain ⟨v3, vs3, d3, ds3, p3, q3, rfl, rfl, rfl, h3, r3⟩ := trodAll_cons r2
  obtain ⟨v4, vs4, d4, ds4, p4, q4, rfl, rfl, rfl, h4, r4⟩ := trodAll_cons r3
  obtain ⟨v5, vs5, d5, ds5, p5, q5, rfl, rfl, rfl, h5, r5⟩ := trodAll_cons r4
  obtain ⟨rfl, rfl, rfl⟩ := trodAll_nil r5
  obtain rfl : args = #[v0, v1, v2, v3, v4, v5] := by cases args; simp_all
  obtain ⟨rfl, rfl⟩ := trodVars_none hV
  obtain ⟨vs, rfl, hsz, _⟩ : ∃ cs, v0 = .agg cs ∧ cs.size = Try.prog.cellsOf 22 ∧ Row.okWide Try.prog W .any base 22 cs := by
    have := hval 0 22 v0 rfl rfl
    simpa [Value.okWide, Try.underlying22] using this
  rw [cells22] at hsz
  have k0 := h0
  have lt0 : ∀ x ∈ p0, x.block < W.heap.size := by obtain ⟨m, hm⟩ := k0; exact DataW.trod_lt m _ _ _ hm
  obtain ⟨f, hf⟩ : ∃ f : Nat → Int, ∀ i, i < 30 → vs[i]? = some (.int .u8 (f i)) := by
    obtain ⟨fuel, hfu⟩ := h0
    obtain ⟨xs, m, _, _, _, hxl, hel⟩ := DataW.trod_array Try.underlying22 hfu
    have he : ∀ i, i < 30 → ∃ n : Int, vs[i]? = some (.int .u8 n) := by
      intro i hi
      have h := hel i hi
      rw [Try.cells5, Nat.mul_one, List.getElem?_eq_getElem (by omega)] at h
      obtain ⟨n, e, _⟩ := DataW.trod_int Try.underlying5 h
      refine ⟨n, ?_⟩
      have hl : i < vs.toList.length := by simpa [hsz] using hi
      simp only [Value.cells] at e
      rw [List.drop_eq_getElem_cons hl] at e
      simp at e
      rw [Array.getElem?_eq_getElem (by omega)]
      rw [e]
    exact ⟨fun i => if h : i < 30 then (he i h).choose else 0, fun i hi => by simp only [dif_pos hi]; exact (he i hi).choose_spec⟩
  obtain ⟨a1, rfl, rfl, rfl, w1⟩ := open_int Try.underlying23 (hval 1 23 v1 rfl rfl) h1
  obtain ⟨a2, rfl, rfl, rfl, w2⟩ := open_int Try.underlying21 (hval 2 21 v2 rfl rfl) h2
  obtain ⟨s, rfl, rfl, rfl, hs⟩ := open_string Try.underlying9 (hval 3 9 v3 rfl rfl) h3
  obtain ⟨b4, rfl, rfl, rfl⟩ := open_bool Try.underlying4 (hval 4 4 v4 rfl rfl) h4
  obtain ⟨b5, rfl, rfl, rfl⟩ := open_bool Try.underlying4 (hval 5 4 v5 rfl rfl) h5
  clear hA0 hval0
  refine (walk vs f hsz hf a1 a2 (bounds_u64 w1).1 s hs b4 b5 W).mono fun e W' ⟨he, bel⟩ => ?_
  subst he
  exact ⟨_, rfl, _, _, _, [], _, [], hW', trodAll_mk1 (shut_bool Try.underlying4 _), (trodAll_cons_mk (Below.trod laidOut (by kernel_rfl) (of_decide_eq_true (by kernel_rfl)) k0 bel lt0) (trodAll_cons_mk (shut_int Try.underlying23 w1) (trodAll_cons_mk (shut_int Try.underlying21 w2) (trodAll_cons_mk (shut_string Try.underlying9 hs) (trodAll_cons_mk (shut_bool Try.underlying4 _) (trodAll_cons_mk (shut_bool Try.underlying4 _) trodAll_mk0)))))), rfl, bel.frame _, fun h => by cases h⟩

theorem over : Rows.fnValueEndFindsEndOfEncodedValueRow.holds Try.pinned (OpenSpec.ofChange Rows.fnValueEndFindsEndOfEncodedValueSpec) :=
  OpenClaim.holds_of_wide 4 Try.f4 rfl rfl rfl rfl rfl rfl rfl ⟨rfl, rfl, rfl, rfl, rfl⟩ rfl rfl rfl rfl rfl (by kernel_rfl) Try.func4 (by kernel_rfl)
    (of_decide_eq_true (by kernel_rfl)) (by unfold Func.isWrapper; first | (rw [if_pos (by decide +kernel)]; kernel_rfl) | (rw [if_neg (by decide +kernel)]; exact ⟨rfl, rfl⟩))
    (fun os started H enc _ => lifted os started H enc)

theorem proved : Rows.FnValueEndFindsEndOfEncodedValueSaid := over
#print axioms proved
end Go.Proofs.Qxb6003438a.fnValueEndFindsEndOfEncodedValue
