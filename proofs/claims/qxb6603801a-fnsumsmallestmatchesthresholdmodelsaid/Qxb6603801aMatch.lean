import Derived.Test.Qxb6603801aLaw4
namespace Go.Proofs.Qxb6603801a
open Go.RowKit
set_option linter.unusedVariables false
set_option linter.unusedSimpArgs false

/-! ### The greedy matching of pairs -/
-- How often the pair (x, y) stands among the first k; among the used ones of all n.
def cnt (k : Nat) (V W : Nat → Int) (x y : Int) : Int := sm k (fun j => if V j = x ∧ W j = y then 1 else 0)
def cntU (n : Nat) (U : Nat → Bool) (V W : Nat → Int) (x y : Int) : Int := sm n (fun j => if U j = true ∧ V j = x ∧ W j = y then 1 else 0)

-- As many of each pair are used as have been met.
def Matched (n i : Nat) (U : Nat → Bool) (V W V' W' : Nat → Int) : Prop := ∀ x y, cntU n U V W x y = cnt i V' W' x y

theorem Matched.start (n : Nat) (V W V' W' : Nat → Int) : Matched n 0 (fun _ => false) V W V' W' := by
  intro x y
  unfold cntU cnt
  rw [sm_zero (fun j _ => by simp)]
  rfl

theorem Matched.free {n i : Nat} {U : Nat → Bool} {V W V' W' : Nat → Int} (h : Matched n i U V W V' W') (heq : Eqv n V W V' W') (hi : i < n) : ∃ j, j < n ∧ U j = false ∧ V j = V' i ∧ W j = W' i := by
  have hm := h (V' i) (W' i)
  have hc : cnt n V' W' (V' i) (W' i) = cnt n V W (V' i) (W' i) := heq (fun v w => if v = V' i ∧ w = W' i then 1 else 0)
  have hup : cnt (i + 1) V' W' (V' i) (W' i) ≤ cnt n V' W' (V' i) (W' i) := sm_up (show i + 1 ≤ n from hi) (fun j _ => by split <;> omega)
  have hs : cnt (i + 1) V' W' (V' i) (W' i) = cnt i V' W' (V' i) (W' i) + 1 := by unfold cnt; rw [sm_succ, if_pos ⟨rfl, rfl⟩]
  have key : 0 < sm n (fun j => if U j = false ∧ V j = V' i ∧ W j = W' i then 1 else 0) := by
    have e : cnt n V W (V' i) (W' i) = cntU n U V W (V' i) (W' i) + sm n (fun j => if U j = false ∧ V j = V' i ∧ W j = W' i then 1 else 0) := by
      unfold cnt cntU
      rw [← sm_add]
      apply sm_congr
      intro j _
      cases hU : U j
      · by_cases hp : V j = V' i ∧ W j = W' i
        · simp [hp]
        · rw [if_neg hp]; simp [hp]
      · by_cases hp : V j = V' i ∧ W j = W' i
        · simp [hp]
        · rw [if_neg hp]; simp [hp]
    omega
  obtain ⟨j, hj, h0⟩ := sm_pos (fun j _ => by split <;> omega) key
  by_cases hp : U j = false ∧ V j = V' i ∧ W j = W' i
  · exact ⟨j, hj, hp⟩
  · rw [if_neg hp] at h0; omega

theorem Matched.step {n i j : Nat} {U : Nat → Bool} {V W V' W' : Nat → Int} (h : Matched n i U V W V' W') (hj : j < n) (hU : U j = false) (hV : V j = V' i) (hW : W j = W' i) : Matched n (i + 1) (fun k => if k = j then true else U k) V W V' W' := by
  intro x y
  have hm := h x y
  unfold cnt
  rw [sm_succ]
  have e : cntU n (fun k => if k = j then true else U k) V W x y = sm n (fun k => if k = j then (if V j = x ∧ W j = y then 1 else 0) else (if U k = true ∧ V k = x ∧ W k = y then 1 else 0)) := by
    unfold cntU
    apply sm_congr
    intro k _
    by_cases ek : k = j
    · subst ek; simp
    · simp [ek]
  rw [e, sm_update _ _ hj, hU, hV, hW]
  unfold cntU cnt at hm
  rw [hm]
  simp

theorem Try.info4 : (Try.prog.info? 4).map (fun i => (i.zero, i.size, i.bytes)) = some (some (.bool false), 1, 1) := by kernel_rfl

-- What lies in memory while the pairs are matched.
structure MW (w : World) (bv bw cv cw bu n : Nat) (V W V' W' : Nat → Int) (U : Nat → Bool) (wr : World) : Prop where
  rv : wr.rowIs bv 3 n (ints V)
  rw : wr.rowIs bw 3 n (ints W)
  sv : wr.rowIs cv 3 n (ints V')
  sw : wr.rowIs cw 3 n (ints W')
  ru : wr.rowIs bu 4 n (fun j => .bool (U j))
  d1 : bv ≠ bu
  d2 : bw ≠ bu
  d3 : cv ≠ bu
  d4 : cw ≠ bu
  hb : w.heap.size ≤ bu
  bel : Below w.heap.size w wr

theorem MW.drewN {w : World} {bv bw cv cw bu n : Nat} {V W V' W' : Nat → Int} {U : Nat → Bool} {wr : World} (h : MW w bv bw cv cw bu n V W V' W' U wr) (m : Nat) : MW w bv bw cv cw bu n V W V' W' U (wr.drewN m) :=
  ⟨h.rv, h.rw, h.sv, h.sw, h.ru, h.d1, h.d2, h.d3, h.d4, h.hb, ⟨h.bel.os, h.bel.tape, h.bel.output, h.bel.size, h.bel.block⟩⟩

theorem MW.use {w : World} {bv bw cv cw bu n : Nat} {V W V' W' : Nat → Int} {U : Nat → Bool} {wr : World} (h : MW w bv bw cv cw bu n V W V' W' U wr) (j : Nat) : MW w bv bw cv cw bu n V W V' W' (fun k => if k = j then true else U k) (wr.setCell ⟨bu, j, none⟩ (.bool true)) := by
  refine ⟨h.rv.setOther (by exact h.d1) _, h.rw.setOther (by exact h.d2) _, h.sv.setOther (by exact h.d3) _, h.sw.setOther (by exact h.d4) _, (h.ru.set j _).congr fun k _ => ?_, h.d1, h.d2, h.d3, h.d4, h.hb, h.bel.setCell h.hb _⟩
  split <;> rfl

theorem bools_cell {w : World} {b c i : Nat} {U : Nat → Bool} (h : w.rowIs b 4 c (fun j => .bool (U j))) (hi : i < c) : w.cell? ⟨b, i, none⟩ = some (.bool (U i)) := h.cell hi

end Go.Proofs.Qxb6603801a
