import Derived.Test.Qxb6003438aGrown
import Derived.Lib.SliceRun
import Derived.Laws.CopyOwn
namespace Go.Proofs.Qxb6003438a
open Go.RowKit
set_option linter.unusedVariables false
set_option linter.unusedSimpArgs false

theorem hideP {p : Prop} (h : p) : Hid p := h

/-! ### Steps of the world, all by 'grownBy' -/
theorem grown_setCell (w : World) (a : Addr) (u : Value) : w.grownBy (w.setCell a u) (some a.block) :=
  ⟨rfl, rfl, rfl, by simp [World.setCell], fun k _ hk => Below.heap_setCell _ _ _ _ (fun e => hk (by rw [e]))⟩
theorem grown_drew (w : World) (row : Option Nat) : w.grownBy w.drew row := ⟨rfl, rfl, rfl, Nat.le_refl _, fun _ _ _ => rfl⟩
theorem grown_then {w w1 w2 : World} {row : Option Nat} (h1 : w.grownBy w1 none) (h2 : w1.grownBy w2 row) : w.grownBy w2 row :=
  ⟨h2.os.trans h1.os, h2.tape.trans h1.tape, h2.output.trans h1.output, Nat.le_trans h1.size h2.size, fun k hk hr => (h2.block k (Nat.lt_of_lt_of_le hk h1.size) hr).trans (h1.block k hk (by simp))⟩
theorem grown_draw {w w1 : World} {row : Option Nat} (h1 : w.grownBy w1 row) : w.grownBy w1.drew row :=
  ⟨h1.os, h1.tape, h1.output, h1.size, h1.block⟩
theorem row_grown {w w' : World} {b t n : Nat} {f : Nat → Value} {row : Option Nat} (h : w.rowIs b t n f) (hg : w.grownBy w' row) (hne : row ≠ some b) : w'.rowIs b t n f :=
  h.of_block (hg.block b h.lt (fun e => hne e.symm))

-- All that was there, but for the blocks that may turn, is as it was.
structure Kept (X : Nat → Prop) (w w' : World) : Prop where
  os : w'.os = w.os
  tape : w'.tape = w.tape
  output : w'.output = w.output
  size : w.heap.size ≤ w'.heap.size
  block : ∀ k, k < w.heap.size → ¬ X k → w'.heap[k]? = w.heap[k]?

theorem Kept.refl (X : Nat → Prop) (w : World) : Kept X w w := ⟨rfl, rfl, rfl, Nat.le_refl _, fun _ _ _ => rfl⟩
theorem Kept.grown {X : Nat → Prop} {a w w' : World} {row : Option Nat} (h : Kept X a w) (hg : w.grownBy w' row) (hr : ∀ k, row = some k → X k) : Kept X a w' :=
  ⟨hg.os.trans h.os, hg.tape.trans h.tape, hg.output.trans h.output, Nat.le_trans h.size hg.size, fun k hk hx => (hg.block k (Nat.lt_of_lt_of_le hk h.size) (fun e => hx (hr k e.symm))).trans (h.block k hk hx)⟩
theorem Kept.setCell {X : Nat → Prop} {a w : World} (h : Kept X a w) {p : Addr} (hp : X p.block) (u : Value) : Kept X a (w.setCell p u) := h.grown (grown_setCell w p u) (fun k e => by cases e; exact hp)
theorem Kept.below {B : Nat} {w w' : World} (h : Kept (fun k => B ≤ k) w w') (hB : B ≤ w.heap.size) : Below B w w' := ⟨h.os, h.tape, h.output, h.size, fun k hk => h.block k (by omega) (by omega)⟩

-- A buffer of int32s as it is handed in: nil, or a row of its own from the head of some block from B on.
def InBuf (B : Nat → Prop) (w : World) (v : Value) : Prop :=
  v = .slice none 0 0 ∨ ∃ (b len cap : Nat) (f : Nat → Int), v = .slice (some ⟨b, 0, none⟩) len cap ∧ B b ∧ cap ≤ 1048576 ∧ w.rowIs b 21 cap (ints f)

theorem InBuf.own {B : Nat → Prop} {w : World} {v : Value} (h : InBuf B w v) {b : Nat} (hb : v.ownBlock = some b) : B b ∧ b < w.heap.size := by
  rcases h with rfl | ⟨b', len, cap, f, rfl, h1, _, h2⟩
  · simp [Value.ownBlock] at hb
  · simp [Value.ownBlock] at hb
    subst hb
    exact ⟨h1, h2.lt⟩

theorem InBuf.grown {B : Nat → Prop} {w w' : World} {v : Value} {row : Option Nat} (h : InBuf B w v) (hg : w.grownBy w' row) (hne : ∀ b, row = some b → v.ownBlock ≠ some b) : InBuf B w' v := by
  rcases h with rfl | ⟨b', len, cap, f, rfl, h1, h2, h3⟩
  · exact .inl rfl
  · exact .inr ⟨b', len, cap, f, rfl, h1, h2, row_grown h3 hg (fun e => hne b' e rfl)⟩

theorem grown_any (B : Nat → Prop) (v : Value) (n : Nat) (w : World) (hB : B w.heap.size) (hb : InBuf B w v) (hn : n ≤ 4096) :
    Calls Try.prog 26 #[v, .int .i64 n] w fun e w' => ∃ (ao : Option Addr) (c : Nat), e = .returned (.slice ao n c) ∧ n ≤ c ∧ c ≤ 1048576 ∧ w.grownBy w' none ∧
      (0 < n → ∃ (b' : Nat) (f : Nat → Int), ao = some ⟨b', 0, none⟩ ∧ B b' ∧ w'.rowIs b' 21 c (ints f) ∧ (v.ownBlock = some b' ∨ b' = w.heap.size)) := by
  rcases hb with rfl | ⟨b, len, cap, f, rfl, hbB, hcap, hrow⟩
  · by_cases h0 : n = 0
    · subst h0
      refine (grown_nil w).mono fun e w' ⟨he, hw⟩ => ?_
      subst he hw
      exact ⟨none, 0, rfl, by omega, by omega, World.grownBy.refl _ _, by omega⟩
    · refine (grown_new none 0 0 n w (by omega) (by omega)).mono fun e w' ⟨he, hw⟩ => ?_
      subst he hw
      exact ⟨_, n, rfl, by omega, by omega, World.grownBy_alloc _ _ _, fun _ => ⟨_, fun _ => 0, rfl, hB, World.rowIs_made w _ n 21, .inr rfl⟩⟩
  · by_cases h0 : n ≤ cap
    · refine (grown_old b len cap n w (by omega) h0 hcap).mono fun e w' ⟨he, hw⟩ => ?_
      subst he hw
      exact ⟨_, cap, rfl, h0, hcap, World.grownBy.refl _ _, fun _ => ⟨b, f, rfl, hbB, hrow, .inl rfl⟩⟩
    · refine (grown_new _ len cap n w (by omega) (by omega)).mono fun e w' ⟨he, hw⟩ => ?_
      subst he hw
      exact ⟨_, n, rfl, by omega, by omega, World.grownBy_alloc _ _ _, fun _ => ⟨_, fun _ => 0, rfl, hB, World.rowIs_made w _ n 21, .inr rfl⟩⟩

-- The cells of the chunks: of each four the last is its partition.
def chk (p : Nat → Nat) (j : Nat) : Value := if j % 4 = 3 then .int .i32 (p (j / 4)) else if j % 4 = 2 then .int .i32 0 else .int .i64 0

-- What is known of a bigSet at block S throughout: its four fields; its chunks at block C; nothing below B has turned.
structure St (B : Nat → Prop) (w0 : World) (S C n : Nat) (p : Nat → Nat) (vst vor vco : Value) (w : World) : Prop where
  ch : w.cell? ⟨S, 1029, none⟩ = some (.slice (some ⟨C, 0, none⟩) n n)
  st : w.cell? ⟨S, 1036, none⟩ = some vst
  or : w.cell? ⟨S, 1037, none⟩ = some vor
  co : w.cell? ⟨S, 1038, none⟩ = some vco
  fr : ∀ o, w.frozen? ⟨S, o, none⟩ = false
  row : w.rowIs C 66 (4 * n) (chk p)
  bel : Kept B w0 w
  hS : B S
  hC : B C
  hB : ∀ k, w0.heap.size ≤ k → B k

theorem St.ltS {B : Nat → Prop} {w0 : World} {S C n : Nat} {p : Nat → Nat} {vst vor vco : Value} {w : World} (h : St B w0 S C n p vst vor vco w) : S < w.heap.size := World.block_lt_of_cell? w _ h.ch
theorem St.size {B : Nat → Prop} {w0 : World} {S C n : Nat} {p : Nat → Nat} {vst vor vco : Value} {w : World} (h : St B w0 S C n p vst vor vco w) : B w.heap.size := h.hB _ h.bel.size

theorem St.grown {B : Nat → Prop} {w0 : World} {S C n : Nat} {p : Nat → Nat} {vst vor vco : Value} {w w' : World} {row : Option Nat} (h : St B w0 S C n p vst vor vco w) (hg : w.grownBy w' row)
    (hne : ∀ b, row = some b → b ≠ S ∧ b ≠ C ∧ B b) : St B w0 S C n p vst vor vco w' := by
  have e := hg.block S h.ltS (fun e => (hne S e.symm).1 rfl)
  have k : ∀ o, w'.cell? ⟨S, o, none⟩ = w.cell? ⟨S, o, none⟩ := fun o => World.cell?_of_block (w := w) e
  exact ⟨by rw [k]; exact h.ch, by rw [k]; exact h.st, by rw [k]; exact h.or, by rw [k]; exact h.co, fun o => by rw [World.frozen?_of_block (w := w) e]; exact h.fr o,
    row_grown h.row hg (fun e => (hne C e).2.1 rfl), h.bel.grown hg (fun b e => (hne b e).2.2), h.hS, h.hC, h.hB⟩

theorem chk0 (p : Nat → Nat) (k : Nat) : chk p (k * 4) = .int .i64 0 := by
  have h1 : k * 4 % 4 = 0 := by omega
  simp [chk, h1]
theorem chk1 (p : Nat → Nat) (k : Nat) : chk p (k * 4 + 1) = .int .i64 0 := by
  have h1 : (k * 4 + 1) % 4 = 1 := by omega
  simp [chk, h1]
theorem chk2 (p : Nat → Nat) (k : Nat) : chk p (k * 4 + 2) = .int .i32 0 := by
  have h1 : (k * 4 + 2) % 4 = 2 := by omega
  simp [chk, h1]
theorem chk3 (p : Nat → Nat) (k : Nat) : chk p (k * 4 + 3) = .int .i32 (p k) := by
  have h1 : (k * 4 + 3) % 4 = 3 := by omega
  have h2 : (k * 4 + 3) / 4 = k := by omega
  simp [chk, h1, h2]

theorem St.chunk {B : Nat → Prop} {w0 : World} {S C n : Nat} {p : Nat → Nat} {vst vor vco : Value} {w : World} (h : St B w0 S C n p vst vor vco w) {k : Nat} (hk : k < n) :
    w.cell? ⟨C, k * 4, none⟩ = some (.int .i64 0) ∧ w.cell? ⟨C, k * 4 + 1, none⟩ = some (.int .i64 0) ∧ w.cell? ⟨C, k * 4 + 2, none⟩ = some (.int .i32 0) ∧ w.cell? ⟨C, k * 4 + 3, none⟩ = some (.int .i32 (p k)) := by
  refine ⟨?_, ?_, ?_, ?_⟩
  · rw [h.row.cell (by omega), chk0]
  · rw [h.row.cell (by omega), chk1]
  · rw [h.row.cell (by omega), chk2]
  · rw [h.row.cell (by omega), chk3]

-- A store into the field of 'starts' | 'order' | 'counts'.
theorem St.setSt {B : Nat → Prop} {w0 : World} {S C n : Nat} {p : Nat → Nat} {vst vor vco : Value} {w : World} (h : St B w0 S C n p vst vor vco w) (hne : S ≠ C) (v : Value) : St B w0 S C n p v vor vco (w.setCell ⟨S, 1036, none⟩ v) := by
  have o : ∀ j, j ≠ 1036 → (w.setCell ⟨S, 1036, none⟩ v).cell? ⟨S, j, none⟩ = w.cell? ⟨S, j, none⟩ := fun j hj => World.cell?_setCell_other _ _ _ _ (by intro e; exact hj (congrArg Addr.off e).symm)
  exact ⟨by rw [o _ (by omega)]; exact h.ch, World.cell?_setCell_same _ _ _ h.st, by rw [o _ (by omega)]; exact h.or, by rw [o _ (by omega)]; exact h.co, fun j => by rw [World.frozen?_setCell]; exact h.fr j,
    h.row.setOther (by exact fun e => hne e.symm) _, h.bel.setCell h.hS _, h.hS, h.hC, h.hB⟩
theorem St.setOr {B : Nat → Prop} {w0 : World} {S C n : Nat} {p : Nat → Nat} {vst vor vco : Value} {w : World} (h : St B w0 S C n p vst vor vco w) (hne : S ≠ C) (v : Value) : St B w0 S C n p vst v vco (w.setCell ⟨S, 1037, none⟩ v) := by
  have o : ∀ j, j ≠ 1037 → (w.setCell ⟨S, 1037, none⟩ v).cell? ⟨S, j, none⟩ = w.cell? ⟨S, j, none⟩ := fun j hj => World.cell?_setCell_other _ _ _ _ (by intro e; exact hj (congrArg Addr.off e).symm)
  exact ⟨by rw [o _ (by omega)]; exact h.ch, by rw [o _ (by omega)]; exact h.st, World.cell?_setCell_same _ _ _ h.or, by rw [o _ (by omega)]; exact h.co, fun j => by rw [World.frozen?_setCell]; exact h.fr j,
    h.row.setOther (by exact fun e => hne e.symm) _, h.bel.setCell h.hS _, h.hS, h.hC, h.hB⟩
theorem St.setCo {B : Nat → Prop} {w0 : World} {S C n : Nat} {p : Nat → Nat} {vst vor vco : Value} {w : World} (h : St B w0 S C n p vst vor vco w) (hne : S ≠ C) (v : Value) : St B w0 S C n p vst vor v (w.setCell ⟨S, 1038, none⟩ v) := by
  have o : ∀ j, j ≠ 1038 → (w.setCell ⟨S, 1038, none⟩ v).cell? ⟨S, j, none⟩ = w.cell? ⟨S, j, none⟩ := fun j hj => World.cell?_setCell_other _ _ _ _ (by intro e; exact hj (congrArg Addr.off e).symm)
  exact ⟨by rw [o _ (by omega)]; exact h.ch, by rw [o _ (by omega)]; exact h.st, by rw [o _ (by omega)]; exact h.or, World.cell?_setCell_same _ _ _ h.co, fun j => by rw [World.frozen?_setCell]; exact h.fr j,
    h.row.setOther (by exact fun e => hne e.symm) _, h.bel.setCell h.hS _, h.hS, h.hC, h.hB⟩

/-! ### 'clear' and 'copy' over rows -/
theorem Try.zero21 : ∀ w, (zeroValue 21).run Try.prog w = .ok (.int .i32 0) w := by
  obtain ⟨i0, hi, hz0, _, _⟩ := info_parts Try.info21
  intro w
  simp [zeroValue, typeInfo, hi, hz0]

theorem row_setCells {w : World} {b t n : Nat} {f : Nat → Value} (h : w.rowIs b t n f) (vs : List Value) (o : Nat) (ho : o + vs.length ≤ n) :
    (w.setCells b o vs).rowIs b t n (fun j => if o ≤ j ∧ j < o + vs.length then vs.getD (j - o) undef else f j) ∧ w.grownBy (w.setCells b o vs) (some b) := by
  induction vs generalizing w o f with
  | nil => exact ⟨h.congr fun j hj => by rw [if_neg (by simp)], World.grownBy.refl _ _⟩
  | cons v vs ih =>
    simp only [List.length_cons] at ho
    obtain ⟨h1, h2⟩ := ih (h.set o v) (o + 1) (by omega)
    refine ⟨?_, ?_⟩
    · rw [World.setCells]
      refine h1.congr fun j hj => ?_
      by_cases e1 : o + 1 ≤ j ∧ j < o + 1 + vs.length
      · rw [if_pos e1, if_pos (by simp; omega)]
        obtain ⟨m, rfl⟩ : ∃ m, j = o + 1 + m := ⟨j - (o + 1), by omega⟩
        rw [show o + 1 + m - (o + 1) = m from by omega, show o + 1 + m - o = m + 1 from by omega]
        simp
      · rw [if_neg e1]
        by_cases e2 : j = o
        · subst e2
          rw [if_pos (by simp)]
          simp
        · rw [if_neg e2, if_neg (by simp; omega)]
    · rw [World.setCells]
      have g1 := grown_setCell w ⟨b, o, none⟩ v
      exact ⟨h2.os.trans g1.os, h2.tape.trans g1.tape, h2.output.trans g1.output, Nat.le_trans g1.size h2.size, fun k hk hr => (h2.block k (Nat.lt_of_lt_of_le hk g1.size) hr).trans (g1.block k hk hr)⟩

theorem wpList_clear_row {w : World} {ops : Array Oper} {rest : List Oper} {o : Oper} {a : Act} {Q : Exit → Act → World → Prop} (hgd : o.guard = none) (x : Operand)
    (ho : o.op = .call { callee := .builtin .clear, args := #[x], argTypes := #[32] }) (b n c : Nat) (f : Nat → Int) (hx : a.eval x = .slice (some ⟨b, 0, none⟩) n c) (hn : 0 < n) (hnc : n ≤ c) (hrow : w.rowIs b 21 c (ints f))
    (h : ∀ w', w'.rowIs b 21 c (ints (fun j => if j < n then 0 else f j)) → w.grownBy w' (some b) → wpList Try.prog ops Q rest (a.put o.dst (.tuple #[])) w') : wpList Try.prog ops Q (o :: rest) a w := by
  refine wpList_plain hgd fun K hK => ?_
  have hrun := Lib.run_clear_slice (P := Try.prog) w 32 21 o.type (.int .i32 0) Try.underlying32 Try.zero21 rfl rfl b 0 n c hn
    (fun j hj => by rw [Nat.zero_add, hrow.cell (by omega)]; rfl) (fun j hj => hrow.frozen _)
  obtain ⟨r1, r2⟩ := row_setCells hrow (List.replicate n (.int .i32 0)) 0 (by simpa using hnc)
  unfold Oper.wp
  simp [execOp, ho, resolve, invoke, builtin, hx, hrun, Result.andThen]
  refine hK _ _ (h _ (r1.congr fun j hj => ?_) r2)
  dsimp only [ints]
  by_cases e : j < n
  · rw [if_pos (by simpa using e), if_pos e]
    simp [List.getD, e]
  · rw [if_neg (by simpa using e), if_neg e]

theorem Try.size21 : (Try.prog.info? 21).map (·.size) = some 1 := by kernel_rfl

theorem wpList_copy_row {w : World} {ops : Array Oper} {rest : List Oper} {o : Oper} {a : Act} {Q : Exit → Act → World → Prop} (hgd : o.guard = none) (x y : Operand)
    (ho : o.op = .call { callee := .builtin .copy, args := #[x, y], argTypes := #[32, 32] }) (b b2 n c c' c2 : Nat) (f f2 : Nat → Int) (hx : a.eval x = .slice (some ⟨b, 0, none⟩) n c) (hy : a.eval y = .slice (some ⟨b2, 0, none⟩) n c')
    (hn : n ≤ c) (hn2 : n ≤ c2) (hrow : w.rowIs b 21 c (ints f)) (hrow2 : w.rowIs b2 21 c2 (ints f2))
    (h : ∀ w', w'.rowIs b 21 c (ints (fun j => if j < n then f2 j else f j)) → w.grownBy w' (some b) → wpList Try.prog ops Q rest (a.put o.dst (.int .i64 n)) w') : wpList Try.prog ops Q (o :: rest) a w := by
  obtain ⟨cur, hg, hcs, hcur⟩ := hrow
  have hl : ((List.range n).map (ints f2)).length = n := by simp
  refine wpList_copy_own hgd x y 32 32 ho 21 Try.underlying32 Try.size21 b 0 n c ⟨b2, 0, none⟩ n c' hx hy cur 21 hg ((List.range n).map (ints f2)) (by simp) ?_ (by rw [hl]; omega) ?_ ?_
  · intro j v hv
    have hj : j < n := by
      have := (List.getElem?_eq_some_iff.1 hv).1
      simpa using this
    rw [Addr.add_lit, Nat.zero_add, hrow2.cell (by omega), ← hv]
    simp [hj]
  · intro v hv
    obtain ⟨j, _, rfl⟩ := List.mem_map.1 hv
    rfl
  · rw [hl]
    refine h _ ⟨_, setRow_heap w b cur _ 21 _ hg, ?_, ?_⟩ ⟨rfl, rfl, rfl, by simp, fun k _ hk => setRow_other w b k _ (fun e => hk (by rw [e]))⟩
    · simp; omega
    · intro i hi
      simp only [List.take_zero, List.nil_append, Nat.zero_add, List.getElem?_toArray]
      by_cases e : i < n
      · rw [List.getElem?_append_left (by simpa using e)]
        simp [e]
      · rw [List.getElem?_append_right (by simp; omega)]
        simp only [List.length_map, List.length_range, List.getElem?_drop]
        rw [show n + (i - n) = i from by omega]
        simp only [ints, if_neg e]
        simpa using hcur i hi

end Go.Proofs.Qxb6003438a
