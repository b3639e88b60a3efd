import Derived.Test.Qxb6604693aPre
namespace Go.Proofs.Qxb6604693a
open Go.RowKit
set_option linter.unusedVariables false
set_option linter.unusedSimpArgs false

theorem grown_setCell (w : World) (a : Addr) (u : Value) : w.grownBy (w.setCell a u) (some a.block) :=
  ⟨rfl, rfl, rfl, by simp [World.setCell], fun k _ hk => Below.heap_setCell _ _ _ _ (fun e => hk (by rw [e]))⟩
theorem grown_drew (w : World) (row : Option Nat) : w.grownBy w.drew row := ⟨rfl, rfl, rfl, Nat.le_refl _, fun _ _ _ => rfl⟩
theorem grown_then {w w1 w2 : World} {row : Option Nat} (h1 : w.grownBy w1 none) (h2 : w1.grownBy w2 row) : w.grownBy w2 row :=
  ⟨h2.os.trans h1.os, h2.tape.trans h1.tape, h2.output.trans h1.output, Nat.le_trans h1.size h2.size, fun k hk hr => (h2.block k (Nat.lt_of_lt_of_le hk h1.size) hr).trans (h1.block k hk (by simp))⟩
theorem grown_draw {w w1 : World} {row : Option Nat} (h1 : w.grownBy w1 row) : w.grownBy w1.drew row :=
  ⟨h1.os, h1.tape, h1.output, h1.size, h1.block⟩
theorem row_grown {w w' : World} {b t n : Nat} {f : Nat → Value} {row : Option Nat} (h : w.rowIs b t n f) (hg : w.grownBy w' row) (hne : row ≠ some b) : w'.rowIs b t n f :=
  h.of_block (hg.block b h.lt (fun e => hne e.symm))


theorem Try.info9 : (Try.prog.info? 9).map (fun i => (i.zero, i.size, i.bytes)) = some (some (.string ByteArray.empty), 1, 16) := by kernel_rfl
theorem Try.size9 : (Try.prog.info? 9).map (·.size) = some 1 := by kernel_rfl

-- A row of strings, its content by the index.
abbrev strs (F : Nat → ByteArray) : Nat → Value := fun i => .string (F i)
theorem strs_cell {w : World} {b c i : Nat} {F : Nat → ByteArray} (h : w.rowIs b 9 c (strs F)) (hi : i < c) : w.cell? ⟨b, i, none⟩ = some (.string (F i)) := h.cell hi

-- A slice of strings as it came in.
def CameS (w : World) (a : Option Addr) (n : Nat) (F : Nat → ByteArray) : Prop :=
  (a = none ∧ n = 0) ∨ ∃ x, a = some x ∧ ∀ i, i < n → w.cell? (x.add i) = some (.string (F i))

theorem CameS.strs {w : World} {a : Option Addr} {n : Nat} {F : Nat → ByteArray} (h : CameS w a n F) : Strs w a n F := by
  rcases Nat.eq_zero_or_pos n with h0 | h0
  · exact .inl h0
  · rcases h with ⟨_, h⟩ | ⟨⟨b, off, spot⟩, rfl, hc⟩
    · omega
    · have hspot : spot = none := by simpa [Addr.add] using World.cell?_spot (hc 0 h0)
      subst hspot
      exact .inr ⟨b, off, rfl, fun i hi => by have := hc i hi; rwa [Addr.add_lit] at this⟩

theorem row_strs {w : World} {b n c : Nat} {F : Nat → ByteArray} (h : w.rowIs b 9 c (strs F)) (hn : n ≤ c) : Strs w (some ⟨b, 0, none⟩) n F := .inr ⟨b, 0, rfl, fun i hi => by rw [Nat.zero_add]; exact strs_cell h (by omega)⟩
theorem row_strs_from {w : World} {b n c k : Nat} {F : Nat → ByteArray} (h : w.rowIs b 9 c (strs F)) (hn : k + n ≤ c) : Strs w (some ⟨b, k, none⟩) n (fun i => F (k + i)) := .inr ⟨b, k, rfl, fun i hi => strs_cell h (by omega)⟩

-- 'copy' of a slice that came in into a new row of the same length.
theorem wpList_copy_in {w : World} {ops : Array Oper} {rest : List Oper} {o : Oper} {a : Act} {Q : Exit → Act → World → Prop} (hgd : o.guard = none) (x y : Operand)
    (ho : o.op = .call { callee := .builtin .copy, args := #[x, y], argTypes := #[22, 22] }) (b n c' : Nat) (ad : Addr) (f : Nat → Value) (F : Nat → ByteArray) (hx : a.eval x = .slice (some ⟨b, 0, none⟩) n n) (hy : a.eval y = .slice (some ad) n c')
    (hrow : w.rowIs b 9 n f) (hsrc : ∀ i, i < n → w.cell? (ad.add i) = some (.string (F i)))
    (h : ∀ w', w'.rowIs b 9 n (strs F) → w.grownBy w' (some b) → wpList Try.prog ops Q rest (a.put o.dst (.int .i64 n)) w') : wpList Try.prog ops Q (o :: rest) a w := by
  obtain ⟨cur, hg, hcs, hcur⟩ := hrow
  have hl : ((List.range n).map (strs F)).length = n := by simp
  refine wpList_copy_own hgd x y 22 22 ho 9 Try.underlying22 Try.size9 b 0 n n ad n c' hx hy cur 9 hg ((List.range n).map (strs F)) (by simp) ?_ (by rw [hl]; omega) ?_ ?_
  · intro j v hv
    have hj : j < n := by
      have := (List.getElem?_eq_some_iff.1 hv).1
      simpa using this
    rw [hsrc j hj, ← hv]
    simp [hj]
  · intro v hv
    obtain ⟨j, _, rfl⟩ := List.mem_map.1 hv
    rfl
  · rw [hl]
    refine h _ ⟨_, setRow_heap w b cur _ 9 _ hg, ?_, ?_⟩ ⟨rfl, rfl, rfl, by simp, fun k _ hk => setRow_other w b k _ (fun e => hk (by rw [e]))⟩
    · simp; omega
    · intro i hi
      simp only [List.take_zero, List.nil_append, Nat.zero_add, List.getElem?_toArray]
      rw [List.getElem?_append_left (by simpa using hi)]
      simp [hi]

-- A slice of the call's own that holds the first m of G.
def Own (B : Nat) (w : World) (g m cap : Nat) (G : Nat → ByteArray) : Prop := w.ownsRow B 9 1 (.slice (some ⟨g, 0, none⟩) m cap) m ((List.range m).map (strs G))

theorem Own.strs {B : Nat} {w : World} {g m cap : Nat} {G : Nat → ByteArray} (h : Own B w g m cap G) : Strs w (some ⟨g, 0, none⟩) m G :=
  .inr ⟨g, 0, rfl, fun i hi => by rw [Nat.zero_add, World.ownsRow.cellAt h i (by omega)]; simp [hi]⟩

theorem own_next {B : Nat} {w : World} {g m cap : Nat} {G : Nat → ByteArray} {x : ByteArray} (hx : G m = x) (h : w.ownsRow B 9 1 (.slice (some ⟨g, 0, none⟩) (m + 1) cap) (m + 1) ((List.range m).map (strs G) ++ [.string x])) : Own B w g (m + 1) cap G := by
  unfold Own
  rw [List.range_succ, List.map_append]
  subst hx
  exact h

-- What is kept while strings are appended to a slice of the call's own: the list lies at block bl.
structure IW (w : World) (bl n g : Nat) (F : Nat → ByteArray) (m cap : Nat) (G : Nat → ByteArray) (wr : World) : Prop where
  rl : wr.rowIs bl 9 n (strs F)
  own : Own w.heap.size wr g m cap G
  bel : Below w.heap.size w wr
  ne : bl ≠ g
  hg : w.heap.size ≤ g

theorem IW.step {w : World} {bl n g : Nat} {F : Nat → ByteArray} {m cap : Nat} {G : Nat → ByteArray} {wr w' : World} {o : Obj} {x : ByteArray} (h : IW w bl n g F m cap G wr) (hx : G m = x)
    (ho : w'.ownsRow w.heap.size 9 1 (.slice (some ⟨g, 0, none⟩) (m + 1) cap) (m + 1) ((List.range m).map (strs G) ++ [.string x])) (hgr : (wr.alloc o).grownBy w' (some g)) : IW w bl n g F (m + 1) cap G w' := by
  have g1 : wr.grownBy w' (some g) := grown_then (World.grownBy_alloc _ _ _) hgr
  exact ⟨row_grown h.rl g1 (by simp; exact fun e => h.ne e.symm), own_next hx ho, h.bel.grown g1 h.bel.size (fun k e => by cases e; exact h.hg), h.ne, h.hg⟩

theorem IW.drewN {w : World} {bl n g : Nat} {F : Nat → ByteArray} {m cap : Nat} {G : Nat → ByteArray} {wr : World} (h : IW w bl n g F m cap G wr) (q : Nat) : IW w bl n g F m cap G (wr.drewN q) :=
  ⟨h.rl, h.own, ⟨h.bel.os, h.bel.tape, h.bel.output, h.bel.size, h.bel.block⟩, h.ne, h.hg⟩

end Go.Proofs.Qxb6604693a
