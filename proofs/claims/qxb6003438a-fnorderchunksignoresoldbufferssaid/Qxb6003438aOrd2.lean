import Derived.Test.Qxb6003438aOrd
import Derived.RegionTactic
import Derived.Deep.RegionHeld3
import Derived.Deep.RegionWith
import Derived.ChangeAlike
namespace Go.Proofs.Qxb6003438a
open Go.RowKit
set_option linter.unusedVariables false
set_option linter.unusedSimpArgs false

theorem grown_set_alloc (w : World) (a : Addr) (u : Value) (o : Obj) : w.grownBy ((w.setCell a u).alloc o) (some a.block) := by
  have g1 := grown_setCell w a u
  have g2 := World.grownBy_alloc (w.setCell a u) o none
  exact ⟨g2.os.trans g1.os, g2.tape.trans g1.tape, g2.output.trans g1.output, Nat.le_trans g1.size g2.size, fun k hk hr => (g2.block k (Nat.lt_of_lt_of_le hk g1.size) (by simp)).trans (g1.block k hk hr)⟩

theorem ints_cell {w : World} {b c i : Nat} {f : Nat → Int} (h : w.rowIs b 21 c (ints f)) (hi : i < c) : w.cell? ⟨b, i, none⟩ = some (.int .i32 (f i)) := h.cell hi

-- What the first loop keeps: of the first k chunks so many are counted.
def L1 (B : Nat → Prop) (w0 : World) (S C n : Nat) (p : Nat → Nat) (vor vco : Value) (b1 c1 : Nat) (i : Value) (wr : World) : Prop :=
  ∃ (k : Nat) (f : Nat → Int), k ≤ n ∧ i = .int .i64 k ∧ wr.rowIs b1 21 c1 (ints f) ∧ (∀ j, j < 513 → f j = if j = 0 then 0 else (cE p k (j - 1) : Int)) ∧
    St B w0 S C n p (.slice (some ⟨b1, 0, none⟩) 513 c1) vor vco wr ∧ InBuf B wr vor ∧ InBuf B wr vco

theorem L1_step {B : Nat → Prop} {w0 : World} {S C n : Nat} {p : Nat → Nat} {vor vco : Value} {b1 c1 : Nat} {wr : World} {k : Nat} {f : Nat → Int} (o : Obj) (hk : k < n)
    (hrow : wr.rowIs b1 21 c1 (ints f)) (hf : ∀ j, j < 513 → f j = if j = 0 then 0 else (cE p k (j - 1) : Int)) (hst : St B w0 S C n p (.slice (some ⟨b1, 0, none⟩) 513 c1) vor vco wr) (hor : InBuf B wr vor) (hco : InBuf B wr vco)
    (hbS : b1 ≠ S) (hbC : b1 ≠ C) (hB1 : B b1) (ho1 : vor.ownBlock ≠ some b1) (ho2 : vco.ownBlock ≠ some b1) :
    L1 B w0 S C n p vor vco b1 c1 (.int .i64 ((k : Int) + 1)) ((wr.setCell ⟨b1, p k + 1, none⟩ (.int .i32 (f (p k + 1) + 1))).alloc o).drew := by
  have g : wr.grownBy ((wr.setCell ⟨b1, p k + 1, none⟩ (.int .i32 (f (p k + 1) + 1))).alloc o).drew (some b1) := grown_draw (grown_set_alloc wr _ _ o)
  refine ⟨k + 1, fun j => if j = p k + 1 then f (p k + 1) + 1 else f j, by omega, by go_num, ?_, ?_, hst.grown g ?_, hor.grown g ?_, hco.grown g ?_⟩
  · refine ((hrow.set (p k + 1) _).alloc o).congr fun j hj => ?_
    dsimp only [ints]
    split <;> rfl
  · intro j hj
    dsimp only
    by_cases e : j = p k + 1
    · rw [if_pos e, e, hf _ (by omega), if_neg (by omega), if_neg (by omega)]
      simp [cE]
    · rw [if_neg e, hf j hj]
      by_cases e0 : j = 0
      · rw [if_pos e0, if_pos e0]
      · rw [if_neg e0, if_neg e0, cE_succ, if_neg (by omega)]
        simp
  · intro b e; cases e; exact ⟨hbS, hbC, hB1⟩
  · intro b e; cases e; exact ho1
  · intro b e; cases e; exact ho2

-- What the second loop keeps: the counts below q are summed.
def L2 (B : Nat → Prop) (w0 : World) (S C n : Nat) (p : Nat → Nat) (vor vco : Value) (b1 c1 : Nat) (i : Value) (wr : World) : Prop :=
  ∃ (q : Nat) (f : Nat → Int), q ≤ 512 ∧ i = .int .i64 q ∧ wr.rowIs b1 21 c1 (ints f) ∧ (∀ j, j ≤ q → f j = (cL p n j : Int)) ∧ (∀ j, q < j → j < 513 → f j = (cE p n (j - 1) : Int)) ∧
    St B w0 S C n p (.slice (some ⟨b1, 0, none⟩) 513 c1) vor vco wr ∧ InBuf B wr vor ∧ InBuf B wr vco

theorem L2_start {B : Nat → Prop} {w0 : World} {S C n : Nat} {p : Nat → Nat} {vor vco : Value} {b1 c1 : Nat} {wr : World} {f : Nat → Int}
    (hrow : wr.rowIs b1 21 c1 (ints f)) (hf : ∀ j, j < 513 → f j = if j = 0 then 0 else (cE p n (j - 1) : Int)) (hst : St B w0 S C n p (.slice (some ⟨b1, 0, none⟩) 513 c1) vor vco wr) (hor : InBuf B wr vor) (hco : InBuf B wr vco) :
    L2 B w0 S C n p vor vco b1 c1 (.int .i64 0) wr := by
  refine ⟨0, f, by omega, rfl, hrow, ?_, ?_, hst, hor, hco⟩
  · intro j hj
    have : j = 0 := by omega
    subst this
    rw [hf 0 (by omega), cL_zero]
    rfl
  · intro j h0 hj
    rw [hf j hj, if_neg (by omega)]

theorem L2_step {B : Nat → Prop} {w0 : World} {S C n : Nat} {p : Nat → Nat} {vor vco : Value} {b1 c1 : Nat} {wr : World} {q : Nat} {f : Nat → Int} (hq : q < 512)
    (hrow : wr.rowIs b1 21 c1 (ints f)) (hf1 : ∀ j, j ≤ q → f j = (cL p n j : Int)) (hf2 : ∀ j, q < j → j < 513 → f j = (cE p n (j - 1) : Int)) (hst : St B w0 S C n p (.slice (some ⟨b1, 0, none⟩) 513 c1) vor vco wr) (hor : InBuf B wr vor) (hco : InBuf B wr vco)
    (hbS : b1 ≠ S) (hbC : b1 ≠ C) (hB1 : B b1) (ho1 : vor.ownBlock ≠ some b1) (ho2 : vco.ownBlock ≠ some b1) :
    L2 B w0 S C n p vor vco b1 c1 (.int .i64 ((q : Int) + 1)) (wr.setCell ⟨b1, q + 1, none⟩ (.int .i32 (f (q + 1) + f q))).drew := by
  have g : wr.grownBy (wr.setCell ⟨b1, q + 1, none⟩ (.int .i32 (f (q + 1) + f q))).drew (some b1) := grown_draw (grown_setCell _ _ _)
  refine ⟨q + 1, fun j => if j = q + 1 then f (q + 1) + f q else f j, by omega, by go_num, ?_, ?_, ?_, hst.grown g ?_, hor.grown g ?_, hco.grown g ?_⟩
  · refine (hrow.set (q + 1) _).congr fun j hj => ?_
    dsimp only [ints]
    split <;> rfl
  · intro j hj
    dsimp only
    by_cases e : j = q + 1
    · rw [if_pos e, e, hf1 q (by omega), hf2 (q + 1) (by omega) (by omega), cL_succ, Nat.add_sub_cancel]
      omega
    · rw [if_neg e, hf1 j (by omega)]
  · intro j h1 h2
    dsimp only
    rw [if_neg (by omega), hf2 j (by omega) h2]
  · intro b e; cases e; exact ⟨hbS, hbC, hB1⟩
  · intro b e; cases e; exact ho1
  · intro b e; cases e; exact ho2

-- The order's buffer once k chunks have been laid into it.
def Or3 (B : Nat → Prop) (S C b1 b3 n : Nat) (p : Nat → Nat) (ao : Option Addr) (co k : Nat) (w : World) : Prop :=
  n = 0 ∨ ∃ (b2 : Nat) (o : Nat → Int), ao = some ⟨b2, 0, none⟩ ∧ B b2 ∧ b2 ≠ S ∧ b2 ≠ C ∧ b2 ≠ b1 ∧ b2 ≠ b3 ∧ w.rowIs b2 21 co (ints o) ∧ ∀ i, i < k → o (pos p n i) = (i : Int)

-- What the third loop keeps.
def L3 (B : Nat → Prop) (w0 : World) (S C n : Nat) (p : Nat → Nat) (ao : Option Addr) (co : Nat) (vco : Value) (b1 c1 b3 c3 : Nat) (i : Value) (wr : World) : Prop :=
  ∃ (k : Nat) (f g : Nat → Int), k ≤ n ∧ i = .int .i64 k ∧ wr.rowIs b1 21 c1 (ints f) ∧ (∀ j, j < 513 → f j = (cL p n j : Int)) ∧ wr.rowIs b3 21 c3 (ints g) ∧ (∀ j, j < 512 → g j = (cL p n j + cE p k j : Nat)) ∧
    Or3 B S C b1 b3 n p ao co k wr ∧ St B w0 S C n p (.slice (some ⟨b1, 0, none⟩) 513 c1) (.slice ao n co) vco wr

-- What the whole call leaves.
def Done (B : Nat → Prop) (w0 : World) (S C n : Nat) (p : Nat → Nat) (w : World) : Prop :=
  ∃ (b1 c1 b3 c3 co : Nat) (ao : Option Addr) (f g : Nat → Int), 513 ≤ c1 ∧ 512 ≤ c3 ∧ n ≤ co ∧ w.rowIs b1 21 c1 (ints f) ∧ (∀ j, j < 513 → f j = (cL p n j : Int)) ∧ w.rowIs b3 21 c3 (ints g) ∧ (∀ j, j < 512 → g j = (cL p n (j + 1) : Int)) ∧
    Or3 B S C b1 b3 n p ao co n w ∧ St B w0 S C n p (.slice (some ⟨b1, 0, none⟩) 513 c1) (.slice ao n co) (.slice (some ⟨b3, 0, none⟩) 512 c3) w ∧ B b1 ∧ B b3 ∧ b1 ≠ b3

-- A buffer that 'grown' handed back lies apart from all else.
theorem apart_of {B : Nat → Prop} {w0 : World} {S C n : Nat} {p : Nat → Nat} {vst vor vco v : Value} {w : World} {b : Nat} (h : St B w0 S C n p vst vor vco w) (hb : v.ownBlock = some b ∨ b = w.heap.size) (h1 : v.ownBlock ≠ some S) (h2 : v.ownBlock ≠ some C) : b ≠ S ∧ b ≠ C := by
  rcases hb with hb | rfl
  · exact ⟨fun e => h1 (by rw [hb, e]), fun e => h2 (by rw [hb, e])⟩
  · have := h.ltS; have := h.row.lt; exact ⟨by omega, by omega⟩
theorem apart_buf {B : Nat → Prop} {v u : Value} {w : World} {b : Nat} (hu : InBuf B w u) (hb : v.ownBlock = some b ∨ b = w.heap.size) (h : ∀ b, v.ownBlock = some b → u.ownBlock ≠ some b) : u.ownBlock ≠ some b := by
  rcases hb with hb | rfl
  · exact h b hb
  · intro e; have := (hu.own e).2; omega

theorem setup1 {B : Nat → Prop} {w0 : World} {S C n : Nat} {p : Nat → Nat} {vst vor vco : Value} {w w1 w3 : World} {b1 c : Nat} {f1 : Nat → Int} (h : St B w0 S C n p vst vor vco w) (hne : S ≠ C)
    (h2 : InBuf B w vor) (h3 : InBuf B w vco) (hs1 : vst.ownBlock ≠ some S) (hs2 : vst.ownBlock ≠ some C) (ho1 : vor.ownBlock ≠ some S) (hc1 : vco.ownBlock ≠ some S)
    (hso : ∀ b, vst.ownBlock = some b → vor.ownBlock ≠ some b) (hsc : ∀ b, vst.ownBlock = some b → vco.ownBlock ≠ some b)
    (hg : w.grownBy w1 none) (hbB : B b1) (hb1 : vst.ownBlock = some b1 ∨ b1 = w.heap.size) (hrow3 : w3.rowIs b1 21 c (ints fun j => if j < 513 then 0 else f1 j))
    (hg3 : (w1.setCell ⟨S, 1036, none⟩ (.slice (some ⟨b1, 0, none⟩) 513 c)).grownBy w3 (some b1)) :
    L1 B w0 S C n p vor vco b1 c (.int .i64 0) w3 ∧ b1 ≠ S ∧ b1 ≠ C ∧ vor.ownBlock ≠ some b1 ∧ vco.ownBlock ≠ some b1 := by
  obtain ⟨n1, n2⟩ := apart_of h hb1 hs1 hs2
  have n3 := apart_buf h2 hb1 hso
  have n4 := apart_buf h3 hb1 hsc
  have g1 : w.grownBy (w1.setCell ⟨S, 1036, none⟩ (.slice (some ⟨b1, 0, none⟩) 513 c)) (some S) := grown_then hg (grown_setCell _ _ _)
  have T2 := (h.grown hg (by simp)).setSt hne (.slice (some ⟨b1, 0, none⟩) 513 c)
  refine ⟨⟨0, _, by omega, rfl, hrow3, ?_, T2.grown hg3 ?_, (h2.grown g1 ?_).grown hg3 ?_, (h3.grown g1 ?_).grown hg3 ?_⟩, n1, n2, n3, n4⟩
  · intro j hj
    simp [hj, cE]
  · intro b e; cases e; exact ⟨n1, n2, hbB⟩
  · intro b e; cases e; exact ho1
  · intro b e; cases e; exact n3
  · intro b e; cases e; exact hc1
  · intro b e; cases e; exact n4

theorem L3_step {B : Nat → Prop} {w0 : World} {S C n : Nat} {p : Nat → Nat} {vco : Value} {b1 c1 b2 b3 c3 co : Nat} {wr : World} {k : Nat} {f g o : Nat → Int} (ob : Obj) (hk : k < n) (hpk : p k < 512)
    (hrow : wr.rowIs b1 21 c1 (ints f)) (hf : ∀ j, j < 513 → f j = (cL p n j : Int)) (hr3 : wr.rowIs b3 21 c3 (ints g)) (hg : ∀ j, j < 512 → g j = (cL p n j + cE p k j : Nat))
    (hr2 : wr.rowIs b2 21 co (ints o)) (ho : ∀ i, i < k → o (pos p n i) = (i : Int))
    (hst : St B w0 S C n p (.slice (some ⟨b1, 0, none⟩) 513 c1) (.slice (some ⟨b2, 0, none⟩) n co) vco wr)
    (m1 : b3 ≠ S) (m2 : b3 ≠ C) (m3 : b1 ≠ b3) (hB3 : B b3) (k1 : B b2) (s1 : b2 ≠ S) (s2 : b2 ≠ C) (s3 : b2 ≠ b1) (s4 : b2 ≠ b3) :
    L3 B w0 S C n p (some ⟨b2, 0, none⟩) co vco b1 c1 b3 c3 (.int .i64 ((k : Int) + 1)) (((wr.setCell ⟨b2, pos p n k, none⟩ (.int .i32 k)).setCell ⟨b3, p k, none⟩ (.int .i32 (g (p k) + 1))).alloc ob).drew := by
  have g1 := grown_setCell wr ⟨b2, pos p n k, none⟩ (.int .i32 k)
  have g2 : (wr.setCell ⟨b2, pos p n k, none⟩ (.int .i32 k)).grownBy (((wr.setCell ⟨b2, pos p n k, none⟩ (.int .i32 k)).setCell ⟨b3, p k, none⟩ (.int .i32 (g (p k) + 1))).alloc ob).drew (some b3) := grown_draw (grown_set_alloc _ _ _ ob)
  have r1 := row_grown (row_grown hrow g1 (by simp; exact s3)) g2 (by simp; exact fun e => m3 e.symm)
  have r2 := row_grown (hr2.set (pos p n k) (.int .i32 k)) g2 (by simp; exact fun e => s4 e.symm)
  have r3 := (row_grown hr3 g1 (by simp; exact s4)).set (p k) (.int .i32 (g (p k) + 1))
  refine ⟨k + 1, f, fun j => if j = p k then g (p k) + 1 else g j, by omega, by go_num, r1, hf, ?_, ?_, .inr ⟨b2, fun j => if j = pos p n k then (k : Int) else o j, rfl, k1, s1, s2, s3, s4, ?_, ?_⟩, (hst.grown g1 ?_).grown g2 ?_⟩
  · refine (r3.alloc ob).congr fun j hj => ?_
    dsimp only [ints]
    split <;> rfl
  · intro j hj
    dsimp only
    by_cases e : j = p k
    · rw [if_pos e, e, hg _ hpk, cE_succ, if_pos rfl]
      omega
    · rw [if_neg e, hg j hj, cE_succ, if_neg (fun h => e h.symm)]
      simp
  · refine r2.congr fun j hj => ?_
    dsimp only [ints]
    split <;> rfl
  · intro i hi
    dsimp only
    by_cases e : i = k
    · subst e; rw [if_pos rfl]
    · rw [if_neg (fun h => e (pos_inj p (by omega) (by omega) h))]
      exact ho i (by omega)
  · intro b e; cases e; exact ⟨s1, s2, k1⟩
  · intro b e; cases e; exact ⟨m1, m2, hB3⟩

theorem L3_done {B : Nat → Prop} {w0 : World} {S C n : Nat} {p : Nat → Nat} {vco : Value} {b1 c1 b3 c3 co : Nat} {ao : Option Addr} {wr : World} {f g : Nat → Int} (hne : S ≠ C) (h1 : 513 ≤ c1) (h3 : 512 ≤ c3) (h2 : n ≤ co)
    (hrow : wr.rowIs b1 21 c1 (ints f)) (hf : ∀ j, j < 513 → f j = (cL p n j : Int)) (hr3 : wr.rowIs b3 21 c3 (ints g)) (hg : ∀ j, j < 512 → g j = (cL p n j + cE p n j : Nat))
    (hor : Or3 B S C b1 b3 n p ao co n wr) (hst : St B w0 S C n p (.slice (some ⟨b1, 0, none⟩) 513 c1) (.slice ao n co) vco wr)
    (n1 : b1 ≠ S) (m1 : b3 ≠ S) (m3 : b1 ≠ b3) (hbB : B b1) (hB3 : B b3) :
    Done B w0 S C n p (wr.setCell ⟨S, 1038, none⟩ (.slice (some ⟨b3, 0, none⟩) 512 c3)) := by
  refine ⟨b1, c1, b3, c3, co, ao, f, g, h1, h3, h2, hrow.setOther (by exact n1) _, hf, hr3.setOther (by exact m1) _, fun j hj => by rw [hg j hj, cL_succ], ?_, hst.setCo hne _, hbB, hB3, m3⟩
  rcases hor with h | ⟨b2, o, e, k1, s1, s2, s3, s4, r, ho⟩
  · exact .inl h
  · exact .inr ⟨b2, o, e, k1, s1, s2, s3, s4, r.setOther (by exact s1) _, ho⟩

-- From the second loop's end over 'grown', 'grown' and 'copy' to the third loop.
theorem setup2 {B : Nat → Prop} {w0 : World} {S C n : Nat} {p : Nat → Nat} {vor vco : Value} {wr w5 w7 w8 : World} {b1 c1 b3 c3 co : Nat} {ao : Option Addr} {f g3 : Nat → Int} (hne : S ≠ C)
    (hst : St B w0 S C n p (.slice (some ⟨b1, 0, none⟩) 513 c1) vor vco wr) (hor : InBuf B wr vor) (hco : InBuf B wr vco) (hrow : wr.rowIs b1 21 c1 (ints f)) (hf : ∀ j, j ≤ 512 → f j = (cL p n j : Int))
    (n1 : b1 ≠ S) (n2 : b1 ≠ C) (hbB : B b1) (n3 : vor.ownBlock ≠ some b1) (n4 : vco.ownBlock ≠ some b1) (ho1 : vor.ownBlock ≠ some S) (ho2 : vor.ownBlock ≠ some C) (hc1 : vco.ownBlock ≠ some S) (hc2 : vco.ownBlock ≠ some C) (hoc : ∀ b, vor.ownBlock = some b → vco.ownBlock ≠ some b)
    (hg5 : wr.drew.grownBy w5 none)
    (hrow5 : 0 < n → ∃ (b' : Nat) (f : Nat → Int), ao = some ⟨b', 0, none⟩ ∧ B b' ∧ w5.rowIs b' 21 co (ints f) ∧ (vor.ownBlock = some b' ∨ b' = wr.drew.heap.size))
    (hg7 : (w5.setCell ⟨S, 1037, none⟩ (.slice ao n co)).grownBy w7 none) (hB3 : B b3) (hrow7 : w7.rowIs b3 21 c3 (ints g3)) (hb3 : vco.ownBlock = some b3 ∨ b3 = (w5.setCell ⟨S, 1037, none⟩ (.slice ao n co)).heap.size) :
    b3 ≠ S ∧ b3 ≠ C ∧ b1 ≠ b3 ∧ w7.rowIs b1 21 c1 (ints f) ∧ St B w0 S C n p (.slice (some ⟨b1, 0, none⟩) 513 c1) (.slice ao n co) vco w7 ∧
    (w8.rowIs b3 21 c3 (ints (fun j => if j < 512 then f j else g3 j)) → w7.grownBy w8 (some b3) → L3 B w0 S C n p ao co vco b1 c1 b3 c3 (.int .i64 0) w8) := by
  have g5 : wr.grownBy w5 none := grown_then (grown_drew wr none) hg5
  have g6 : wr.grownBy (w5.setCell ⟨S, 1037, none⟩ (.slice ao n co)) (some S) := grown_then g5 (grown_setCell _ _ _)
  have T6 := (hst.grown g5 (by simp)).setOr hne (.slice ao n co)
  have T7 := T6.grown hg7 (by simp)
  have C6 : InBuf B (w5.setCell ⟨S, 1037, none⟩ (.slice ao n co)) vco := hco.grown g6 (fun b e => by cases e; exact hc1)
  have R6 := row_grown hrow g6 (by simp; exact fun e => n1 e.symm)
  have R7 := row_grown R6 hg7 (by simp)
  obtain ⟨m1, m2⟩ := apart_of T6 hb3 hc1 hc2
  have m3 : b1 ≠ b3 := by
    rcases hb3 with hb3 | hb3
    · intro e; exact n4 (by rw [hb3, e])
    · have := R6.lt; omega
  refine ⟨m1, m2, m3, R7, T7, fun h8 g8 => ?_⟩
  have T8 := T7.grown g8 (fun b e => by cases e; exact ⟨m1, m2, hB3⟩)
  have R8 := row_grown R7 g8 (by simp; exact fun e => m3 e.symm)
  refine ⟨0, f, _, by omega, rfl, R8, fun j hj => hf j (by omega), h8, ?_, ?_, T8⟩
  · intro j hj
    rw [if_pos hj, hf j (by omega)]
    simp [cE]
  · by_cases h0 : n = 0
    · exact .inl h0
    · obtain ⟨b2, o, e, k1, k2, k3⟩ := hrow5 (by omega)
      have hk3 : vor.ownBlock = some b2 ∨ b2 = wr.heap.size := k3
      obtain ⟨s1, s2⟩ := apart_of hst hk3 ho1 ho2
      have s3 : b2 ≠ b1 := by
        rcases hk3 with h | h
        · intro e; exact n3 (by rw [h, e])
        · have := hrow.lt; omega
      have k26 : (w5.setCell ⟨S, 1037, none⟩ (.slice ao n co)).rowIs b2 21 co (ints o) := k2.setOther (by exact s1) _
      have s4 : b2 ≠ b3 := by
        rcases hb3 with h3 | h3
        · intro e
          subst e
          rcases hk3 with h | h
          · exact hoc b2 h h3
          · have := (hco.own h3).2; omega
        · have := k26.lt; omega
      exact .inr ⟨b2, o, e, k1, s1, s2, s3, s4, row_grown (row_grown k26 hg7 (by simp)) g8 (by simp; exact fun e => s4 e.symm), by omega⟩

set_option maxRecDepth 20000 in
set_option maxHeartbeats 1000000 in
theorem order_any (B : Nat → Prop) (w0 : World) (S C n : Nat) (p : Nat → Nat) (vst vor vco : Value) (w : World) (h : St B w0 S C n p vst vor vco w) (hne : S ≠ C) (hn : n ≤ 4096) (hp : ∀ i, i < n → p i < 512)
    (h1 : InBuf B w vst) (h2 : InBuf B w vor) (h3 : InBuf B w vco) (hs1 : vst.ownBlock ≠ some S) (hs2 : vst.ownBlock ≠ some C) (ho1 : vor.ownBlock ≠ some S) (ho2 : vor.ownBlock ≠ some C) (hc1 : vco.ownBlock ≠ some S) (hc2 : vco.ownBlock ≠ some C)
    (hso : ∀ b, vst.ownBlock = some b → vor.ownBlock ≠ some b) (hsc : ∀ b, vst.ownBlock = some b → vco.ownBlock ≠ some b) (hoc : ∀ b, vor.ownBlock = some b → vco.ownBlock ≠ some b) :
    Calls Try.prog 23 #[.pointer (some ⟨S, 0, none⟩)] w fun e w' => e = .returned (.tuple #[]) ∧ Done B w0 S C n p w' := by
  have G := hideP (grown_any B vst 513 w h.size h1 (by omega))
  have SU := hideP (fun (w1 w3 : World) (b1 c : Nat) (f1 : Nat → Int) => setup1 (w1 := w1) (w3 := w3) (b1 := b1) (c := c) (f1 := f1) h hne h2 h3 hs1 hs2 ho1 hc1 hso hsc)
  have HS := hideP (fun (b1 : Nat) (hb : vst.ownBlock = some b1 ∨ b1 = w.heap.size) => apart_of h hb hs1 hs2)
  have HT := hideP h
  have HO := hideP (And.intro ho1 ho2)
  have HCO := hideP (And.intro hc1 hc2)
  have HOC := hideP hoc
  have HP := hideP hp
  have c1 := h.st
  clear h h1 h2 h3 hs1 hs2 ho1 ho2 hc1 hc2 hso hsc hoc hp
  go_enter Try.func23, Try.ntmps23
  go_wp2_with (first | (go_at_call 26; refine G.out.mono ?_; rintro e w1 ⟨ao, c, rfl, hcc1, hcc2, hg, hrow⟩; obtain ⟨b1, f1, rfl, hbB, hrow1, hb1⟩ := hrow (by omega); clear hrow; have T1 := HT.out.grown hg (by simp); have d1 := T1.st; have d2 := T1.fr 1036; clear T1; have R2 := hideP (hrow1.setOther (a := ⟨S, 1036, none⟩) (HS.out b1 hb1).1 (.slice (some ⟨b1, 0, none⟩) 513 c)); clear hrow1) | (refine wpList_clear_row rfl (.tmp 22) rfl b1 513 c f1 rfl (by omega) (by omega) R2.out ?_; intro w3 hrow3 hg3; obtain ⟨L0, n1, n2, n3, n4⟩ := SU.out w1 w3 b1 c f1 hg hbB hb1 hrow3 hg3; clear hrow3 hg3 hg hb1 R2; have HL0 := hideP L0; have e1 : w3.cell? ⟨S, 1029, none⟩ = some (.slice (some ⟨C, 0, none⟩) n n) := by (obtain ⟨_, _, _, _, _, _, T, _, _⟩ := L0; exact T.ch)))
  clear e1 d1 d2 c1 L0 G SU HS HT
  go_loopw [28] (fun i wr => L1 B w0 S C n p vor vco b1 c i wr) (fun i _ => n - (intOf i).toNat)
  case atStart => exact HL0.out
  case round =>
    unfold L1 at hrel
    obtain ⟨k, f, hk, rfl, hrow, hf, hst, hor, hco⟩ := hrel
    by_cases hlt : k < n
    · have hpk := HP.out k hlt
      have R := fun o => L1_step o hlt hrow hf hst hor hco n1 n2 hbB n3 n4
      obtain ⟨q0, q1, q2, q3⟩ := hst.chunk hlt
      have q4 := hst.st
      have q5 := ints_cell hrow (i := p k + 1) (by omega)
      have q6 := hrow.frozen (p k + 1)
      have q7 := hst.ltS
      have q8 := hrow.lt
      have hx := hf (p k + 1) (by omega)
      rw [if_neg (by omega), Nat.add_sub_cancel] at hx
      have hle := cE_le p k (p k)
      obtain ⟨x, hx'⟩ : ∃ x, f (p k + 1) = x := ⟨_, rfl⟩
      rw [hx'] at q5 R hx
      have x0 : 0 ≤ x := by omega
      have x1 : x ≤ 4096 := by omega
      obtain ⟨t, ht⟩ : ∃ t, p k = t := ⟨_, rfl⟩
      rw [ht] at q3 q5 q6 R hpk
      have HR := hideP R
      clear hrow hf hst hor hco R hx hx' hle ht
      go_wp2
      go_region
      go_wp2
      go_roundw
      case rel => exact HR.out _
      case measure => simp [intOf]; omega
    · have hkn : k = n := by omega
      subst hkn
      have L20 := hideP (L2_start hrow hf hst hor hco)
      clear hrow hf hst hor hco hlt HL0
      go_wp2
      go_loopw [45] (fun i wr => L2 B w0 S C k p vor vco b1 c i wr) (fun i _ => 512 - (intOf i).toNat)
      case atStart => exact L20.out
      case round =>
        unfold L2 at hrel
        obtain ⟨q, f, hq, rfl, hrow, hf1, hf2, hst, hor, hco⟩ := hrel
        by_cases hlt : q < 512
        · have R := L2_step hlt hrow hf1 hf2 hst hor hco n1 n2 hbB n3 n4
          have q4 := hst.st
          have q5 := ints_cell hrow (i := q + 1) (by omega)
          have q6 := hrow.frozen (q + 1)
          have q9 := ints_cell hrow (i := q) (by omega)
          have hx := hf2 (q + 1) (by omega) (by omega)
          have hy := hf1 q (by omega)
          rw [Nat.add_sub_cancel] at hx
          have hle := cE_le p k q
          have hle2 := cL_le p k q
          obtain ⟨x, hx'⟩ : ∃ x, f (q + 1) = x := ⟨_, rfl⟩
          obtain ⟨y, hy'⟩ : ∃ y, f q = y := ⟨_, rfl⟩
          rw [hx', hy'] at R
          rw [hx'] at q5 hx
          rw [hy'] at q9 hy
          have x0 : 0 ≤ x := by omega
          have x1 : x ≤ 4096 := by omega
          have y0 : 0 ≤ y := by omega
          have y1 : y ≤ 4096 := by omega
          have HR := hideP R
          clear hrow hf1 hf2 hst hor hco R hx hx' hle hle2 hy hy' L20
          go_wp2
          go_region
          go_wp2
          go_roundw
          case rel => exact HR.out
          case measure => simp [intOf]; omega
        · have hq5 : q = 512 := by omega
          subst hq5
          clear hlt L20
          go_wp2
          have q1 := hst.or
          have q2 := hst.ch
          have q3 := hst.ltS
          have G2 := hideP (grown_any B vor k wr.drew hst.size (hor.grown (grown_drew wr none) (by simp)) hn)
          have G3 := hideP (fun (w5 : World) (ao : Option Addr) (co : Nat) (hg5 : wr.drew.grownBy w5 none) => grown_any B vco 512 (w5.setCell ⟨S, 1037, none⟩ (.slice ao k co)) (hst.hB _ (by have := hst.bel.size; have := hg5.size; simp [World.setCell]; exact Nat.le_trans ‹w0.heap.size ≤ wr.heap.size› ‹_›)) (hco.grown (grown_then (grown_then (grown_drew wr none) hg5) (grown_setCell w5 ⟨S, 1037, none⟩ (.slice ao k co))) (fun b e => by cases e; exact HCO.out.1)) (by omega))
          have SU2 := hideP (fun (w5 w7 w8 : World) (b3 c3 co : Nat) (ao : Option Addr) (g3 : Nat → Int) => setup2 (w5 := w5) (w7 := w7) (w8 := w8) (b3 := b3) (c3 := c3) (co := co) (ao := ao) (g3 := g3) hne hst hor hco hrow hf1 n1 n2 hbB n3 n4 HO.out.1 HO.out.2 HCO.out.1 HCO.out.2 HOC.out)
          have HST := hideP hst
          have HROW := hideP (And.intro hrow hf1)
          have HIO := hideP hor
          have HIC := hideP hco
          clear hst hor hco hrow hf1 hf2
          go_region_with (go_at_call 26; refine G2.out.mono ?_; rintro e w5 ⟨ao, co, rfl, hco1, hco2, hg5, hrow5⟩; have T5 := HST.out.grown (grown_then (grown_drew wr none) hg5) (by simp); have r1 := T5.or; have r2 := T5.fr 1037; have r3 := T5.co; clear T5)
          all_goals
            go_wp2_with (first | (go_at_call 26; refine (G3.out w5 ao co hg5).mono ?_; rintro e w7 ⟨a3, c3, rfl, h31, h32, hg7, hrow7⟩; obtain ⟨b3, g3, rfl, hB3, hr7, hb3⟩ := hrow7 (by omega); clear hrow7; obtain ⟨m1, m2, m3, R7, T7, _⟩ := SU2.out w5 w7 w7 b3 c3 co ao g3 hg5 hrow5 hg7 hB3 hr7 hb3; have L30 := hideP (fun w8 => (SU2.out w5 w7 w8 b3 c3 co ao g3 hg5 hrow5 hg7 hB3 hr7 hb3).2.2.2.2.2); have t1 := T7.st; have t2 := T7.ch; have HR7 := hideP R7; have Hr7 := hideP hr7; have HT7 := hideP T7; clear T7 R7 hr7) | (refine wpList_copy_row rfl (.tmp 85) (.tmp 91) rfl b3 b1 512 c3 _ c g3 f rfl rfl (by omega) (by omega) Hr7.out HR7.out ?_; intro w8 h8 g8; have L38 := hideP (L30.out w8 h8 g8); have u2 : w8.cell? ⟨S, 1029, none⟩ = some (.slice (some ⟨C, 0, none⟩) k k) := (HT7.out.grown g8 (fun b e => by cases e; exact ⟨m1, m2, hB3⟩)).ch; clear h8))
            go_loopw [98] (fun i wr => L3 B w0 S C k p ao co vco b1 c b3 c3 i wr) (fun i _ => k - (intOf i).toNat)
            case atStart => exact L38.out
            case round =>
              unfold L3 at hrel
              obtain ⟨k3, f3, g, hk3, rfl, hrow3, hf3, hr3, hg3, hor3, hst3⟩ := hrel
              by_cases hlt : k3 < k
              · have hpk := HP.out k3 hlt
                rcases hor3 with h0 | ⟨b2, o, rfl, k1, s1, s2, s3, s4, hr2, ho⟩
                · omega
                have R := fun ob => L3_step ob hlt hpk hrow3 hf3 hr3 hg3 hr2 ho hst3 m1 m2 m3 hB3 k1 s1 s2 s3 s4
                obtain ⟨q0, q1, q2, q3⟩ := hst3.chunk hlt
                have q4 := hst3.or
                have q5 := ints_cell hr3 (i := p k3) (by omega)
                have q6 := hr3.frozen (p k3)
                have hpos := pos_lt_n p hlt
                have q7 := ints_cell hr2 (i := pos p k k3) (by omega)
                have q8 := hr2.frozen (pos p k k3)
                have q9 := hst3.ltS
                have q10 := hr3.lt
                have q11 := hr2.lt
                have hx : g (p k3) = (pos p k k3 : Int) := hg3 _ hpk
                obtain ⟨P, hP⟩ : ∃ P, pos p k k3 = P := ⟨_, rfl⟩
                rw [hx] at q5 R
                rw [hP] at q5 q7 q8 hpos R
                obtain ⟨t, ht⟩ : ∃ t, p k3 = t := ⟨_, rfl⟩
                rw [ht] at q3 q5 q6 R hpk
                have HR := hideP R
                clear hrow3 hf3 hr3 hg3 hst3 hr2 ho R hx hP ht
                go_wp2
                go_region
                go_wp2
                go_roundw
                case rel => exact HR.out _
                case measure => simp [intOf]; omega
              · have hkn : k3 = k := by omega
                subst hkn
                have D := hideP (L3_done hne hcc1 h31 hco1 hrow3 hf3 hr3 hg3 hor3 hst3 n1 m1 m3 hbB hB3)
                have q1 := hst3.co
                have q2 := hst3.fr 1038
                clear hrow3 hf3 hr3 hg3 hor3 hst3
                go_wp2
                go_end0
                exact ⟨rfl, D.out⟩
end Go.Proofs.Qxb6003438a
