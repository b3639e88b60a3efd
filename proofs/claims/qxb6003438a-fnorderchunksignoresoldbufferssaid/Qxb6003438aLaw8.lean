import Derived.Test.Qxb6003438aLaw6
import Derived.Deep.QuietTactic
import Derived.BigQuiet
namespace Go.Proofs.Qxb6003438a
open Go.RowKit
set_option linter.unusedVariables false
set_option linter.unusedSimpArgs false

-- Two slices of as many int32s, alike cell by cell.
def Same (w : World) (a a' : Option Addr) (n : Nat) : Prop :=
  n = 0 ∨ ∃ (b b' : Nat) (h : Nat → Int), a = some ⟨b, 0, none⟩ ∧ a' = some ⟨b', 0, none⟩ ∧ ∀ i, i < n → w.cell? ⟨b, i, none⟩ = some (.int .i32 (h i)) ∧ w.cell? ⟨b', i, none⟩ = some (.int .i32 (h i))

set_option maxHeartbeats 1000000 in
theorem equal_any (a a' : Option Addr) (n c c' : Nat) (w : World) (hn : n ≤ 4096) (h : Same w a a' n) :
    Calls Try.prog 19 #[.slice a n c, .slice a' n c'] w fun e w' => e = .returned (.bool true) ∧ ∃ m, w' = w.drewN m := by
  have HS := hideP h
  clear h
  go_enter Try.func19, Try.ntmps19
  go_wp2
  go_loopw [5] (fun v wr => ∃ k m : Nat, k ≤ n ∧ v = .int .i64 k ∧ wr = w.drewN m) (fun v _ => n - (intOf v).toNat)
  case atStart => exact ⟨0, 0, by omega, rfl, rfl⟩
  case round =>
    obtain ⟨k, m, hk, rfl, rfl⟩ := hrel
    by_cases hlt : k < n
    · rcases HS.out with h0 | ⟨b, b', h, rfl, rfl, hc⟩
      · omega
      obtain ⟨q1, q2⟩ := hc k hlt
      obtain ⟨x, hx⟩ : ∃ x, h k = x := ⟨_, rfl⟩
      rw [hx] at q1 q2
      have i0 : (0 : Int) ≤ (k : Int) := by omega
      have i1 : (k : Int) < (n : Int) := by omega
      clear hc hx
      go_wp2
      go_quiet (fail)
      go_wp2
      go_roundw
      case rel => exact ⟨k + 1, _, by omega, by go_num, rfl⟩
      case measure => simp [intOf]; omega
    · have hkn : k = n := by omega
      subst hkn
      go_wp2
      go_ret
      exact ⟨rfl, m, rfl⟩

theorem bytes18 (a1 a2 a3 a4 : Option Addr) (n1 n2 n3 n4 c1 c2 c3 c4 : Nat) (w : World) (h1 : n1 ≤ maxLen) (h2 : n2 ≤ maxLen) (h3 : n3 ≤ maxLen) (h4 : n4 ≤ maxLen) :
    Calls Try.prog 18 #[.slice a1 n1 c1, .slice a2 n2 c2, .slice a3 n3 c3, .slice a4 n4 c4] w fun e w' => (∃ b, e = .returned (.bool b) ∧ (n1 + n2 + n3 + n4 ≤ 1048576 → b = true)) ∧ w' = w := by
  unfold maxLen at h1 h2 h3 h4
  by_cases e1 : 1048576 < n1
  · go_enter Try.func18, Try.ntmps18
    go_wp2
    go_ret
    exact ⟨⟨_, rfl, by omega⟩, rfl⟩
  by_cases e2 : 1048576 < n2
  · go_enter Try.func18, Try.ntmps18
    go_wp2
    go_ret
    exact ⟨⟨_, rfl, by omega⟩, rfl⟩
  by_cases e3 : 1048576 < n1 + n2
  · go_enter Try.func18, Try.ntmps18
    go_wp2
    go_ret
    exact ⟨⟨_, rfl, by omega⟩, rfl⟩
  by_cases e4 : 1048576 < n3
  · go_enter Try.func18, Try.ntmps18
    go_wp2
    go_ret
    exact ⟨⟨_, rfl, by omega⟩, rfl⟩
  by_cases e5 : 1048576 < n1 + n2 + n3
  · go_enter Try.func18, Try.ntmps18
    go_wp2
    go_ret
    exact ⟨⟨_, rfl, by omega⟩, rfl⟩
  by_cases e6 : 1048576 < n4
  · go_enter Try.func18, Try.ntmps18
    go_wp2
    go_ret
    exact ⟨⟨_, rfl, by omega⟩, rfl⟩
  by_cases e7 : 1048576 < n1 + n2 + n3 + n4
  · go_enter Try.func18, Try.ntmps18
    go_wp2
    go_ret
    exact ⟨⟨_, rfl, by omega⟩, rfl⟩
  · go_enter Try.func18, Try.ntmps18
    go_wp2
    go_ret
    exact ⟨⟨_, rfl, fun _ => rfl⟩, rfl⟩

-- What a clone is: nil, or a row of its own at the heap's end.
def CloneR (w w' : World) (ap : Option Addr) (len : Nat) (f : Nat → Int) : Prop := ap = none ∧ len = 0 ∨ ap = some ⟨w.heap.size, 0, none⟩ ∧ w'.rowIs w.heap.size 21 len (ints f)

theorem CloneR.own {w w' : World} {ap : Option Addr} {len n c : Nat} {f : Nat → Int} (h : CloneR w w' ap len f) {b : Nat} (hb : (Value.slice ap n c).ownBlock = some b) : b = w.heap.size ∧ w.heap.size < w'.heap.size := by
  rcases h with ⟨rfl, _⟩ | ⟨rfl, r⟩
  · simp [Value.ownBlock] at hb
  · simp [Value.ownBlock] at hb
    exact ⟨hb.symm, r.lt⟩

theorem CloneR.buf {X : Nat → Prop} {w w' w'' : World} {ap : Option Addr} {len : Nat} {f : Nat → Int} (h : CloneR w w' ap len f) (g : w'.grownBy w'' none) (hl : len ≤ 4096) (hX : (Value.slice ap len len).ownBlock = some w.heap.size → X w.heap.size) : InBuf X w'' (.slice ap len len) := by
  rcases h with ⟨rfl, rfl⟩ | ⟨rfl, r⟩
  · exact .inl rfl
  · exact .inr ⟨_, len, len, f, rfl, hX rfl, by omega, row_grown r g (by simp)⟩

theorem kept_grown {w w' : World} (h : Kept (fun b => w.heap.size ≤ b) w w') : w.grownBy w' none := ⟨h.os, h.tape, h.output, h.size, fun k hk _ => h.block k hk (by omega)⟩

theorem first_zz {w5 : World} {k : Nat} {f : Nat → Int} {w4 : World} {aq : Option Addr} (hk : k ≤ 4096) (hf : ∀ j, j < k → 0 ≤ f j ∧ f j < 512) (r5 : CloneR w4 w5 aq k f) :
    Calls Try.prog 16 #[.slice aq k k, .slice none 0 0, .slice none 0 0, .slice none 0 0] w5 fun e w' => ∃ v1 v2 v3, e = .returned (.tuple #[v1, v2, v3]) ∧ Res (fun b => w5.heap.size ≤ b) w5 k (fun i => (f i).toNat) v1 v2 v3 w' := by
  refine zz_any (fun b => w5.heap.size ≤ b) w5 (fun _ h => h) aq k k (fun i => (f i).toNat) hk (fun i hi => by have := hf i hi; show (f i).toNat < 512; omega) ?_ _ _ _ (.inl rfl) (.inl rfl) (.inl rfl) (by simp [Value.ownBlock]) (by simp [Value.ownBlock]) (by simp [Value.ownBlock])
  rcases r5 with ⟨_, h⟩ | ⟨e, r⟩
  · exact .inl h
  · exact .inr ⟨_, e, by have := r.lt; omega, r.congr fun j hj => by simp only [ints, Int.toNat_of_nonneg (hf j hj).1]⟩

theorem second_zz {w w1 w2 w3 w4 w5 w6 w7 : World} {k l1 l2 l3 : Nat} {f f1 f2 f3 : Nat → Int} {asl ao ac aq : Option Addr} {v1 v2 v3 : Value} (hk : k ≤ 4096) (hl1 : l1 ≤ 4096) (hl2 : l2 ≤ 4096) (hl3 : l3 ≤ 4096) (hf : ∀ j, j < k → 0 ≤ f j ∧ f j < 512)
    (g1 : w.grownBy w1 none) (g2 : w1.grownBy w2 none) (g3 : w2.grownBy w3 none) (g4 : w3.grownBy w4 none) (g5 : w4.grownBy w5 none) (g7 : w6.grownBy w7 none)
    (r2 : CloneR w1 w2 asl l1 f1) (r3 : CloneR w2 w3 ao l2 f2) (r4 : CloneR w3 w4 ac l3 f3) (R : Res (fun b => w5.heap.size ≤ b) w5 k (fun i => (f i).toNat) v1 v2 v3 w6) (r7 : CloneR w6 w7 aq k f) :
    Calls Try.prog 16 #[.slice aq k k, .slice asl l1 l1, .slice ao l2 l2, .slice ac l3 l3] w7 fun e w' => ∃ (a1 a2 a3 a1' a2' a3' : Option Addr) (c1 c2 c3 c1' c2' c3' : Nat), v1 = .slice a1 513 c1 ∧ v2 = .slice a2 k c2 ∧ v3 = .slice a3 512 c3 ∧
      e = .returned (.tuple #[.slice a1' 513 c1', .slice a2' k c2', .slice a3' 512 c3']) ∧ Same w' a1 a1' 513 ∧ Same w' a2 a2' k ∧ Same w' a3 a3' 512 ∧ Below w.heap.size w w' := by
  obtain ⟨b1, c1, b3, c3, co, aor, fs, gs, rfl, rfl, rfl, h1, h3, h2, q1, q2, q3, q4, q5, kp, x1, x3⟩ := R
  have g6 := kept_grown kp
  have s1 := g1.size; have s2 := g2.size; have s3 := g3.size; have s4 := g4.size; have s5 := g5.size; have s6 := g6.size; have s7 := g7.size
  have o1 := fun b (h : (Value.slice asl l1 l1).ownBlock = some b) => r2.own h
  have o2 := fun b (h : (Value.slice ao l2 l2).ownBlock = some b) => r3.own h
  have o3 := fun b (h : (Value.slice ac l3 l3).ownBlock = some b) => r4.own h
  have g47 : w4.grownBy w7 none := grown_then g5 (grown_then g6 g7)
  have g37 := grown_then g4 g47
  have g27 := grown_then g3 g37
  refine (zz_any (fun b => w7.heap.size ≤ b ∨ (Value.slice asl l1 l1).ownBlock = some b ∨ (Value.slice ao l2 l2).ownBlock = some b ∨ (Value.slice ac l3 l3).ownBlock = some b) w7 (fun _ h => .inl h) aq k k (fun i => (f i).toNat) hk (fun i hi => by have := hf i hi; show (f i).toNat < 512; omega) ?_ _ _ _
    (r2.buf g27 hl1 (fun h => .inr (.inl h))) (r3.buf g37 hl2 (fun h => .inr (.inr (.inl h)))) (r4.buf g47 hl3 (fun h => .inr (.inr (.inr h)))) ?_ ?_ ?_).mono ?_
  · rcases r7 with ⟨_, h⟩ | ⟨e, r⟩
    · exact .inl h
    · refine .inr ⟨_, e, ?_, r.congr fun j hj => by simp only [ints, Int.toNat_of_nonneg (hf j hj).1]⟩
      have := r.lt
      rintro (h | h | h | h)
      · omega
      · have := o1 _ h; omega
      · have := o2 _ h; omega
      · have := o3 _ h; omega
  · intro b h h'; have := o1 _ h; have := o2 _ h'; omega
  · intro b h h'; have := o1 _ h; have := o3 _ h'; omega
  · intro b h h'; have := o2 _ h; have := o3 _ h'; omega
  · rintro e w' ⟨u1, u2, u3, rfl, d1, e1, d3, e3, eo, bor, ft, gt, rfl, rfl, rfl, t1, t3, t2, p1, p2, p3, p4, p5, kp', _, _⟩
    have out : ∀ b, w5.heap.size ≤ b → b < w7.heap.size → w'.heap[b]? = w7.heap[b]? := fun b hb1 hb2 => kp'.block b hb2 (by
      rintro (h | h | h | h)
      · omega
      · have := o1 _ h; omega
      · have := o2 _ h; omega
      · have := o3 _ h; omega)
    have keep : ∀ {b t n : Nat} {F : Nat → Value}, w5.heap.size ≤ b → w6.rowIs b t n F → w'.rowIs b t n F := fun {b t n F} hb r => by
      have r' := row_grown r g7 (by simp)
      exact r'.of_block (out b hb r'.lt)
    refine ⟨_, _, _, _, _, _, _, _, _, _, _, _, rfl, rfl, rfl, rfl, .inr ⟨b1, d1, fun j => (cL (fun i => (f i).toNat) k j : Int), rfl, rfl, ?_⟩, ?_, .inr ⟨b3, d3, fun j => (cL (fun i => (f i).toNat) k (j + 1) : Int), rfl, rfl, ?_⟩, ?_⟩
    · intro i hi
      exact ⟨by rw [ints_cell (keep x1 q1) (by omega), q2 i hi], by rw [ints_cell p1 (by omega), p2 i hi]⟩
    · rcases q5 with h | ⟨b2, o, e, xb, r, ho⟩
      · exact .inl h
      · rcases p5 with h | ⟨b2', o', e', _, r', ho'⟩
        · exact .inl h
        · refine .inr ⟨b2, b2', o, e, e', fun i hi => ⟨ints_cell (keep xb r) (by omega), ?_⟩⟩
          rw [ints_cell r' (by omega)]
          obtain ⟨j, hj, hpos⟩ := pos_onto (fun i => (f i).toNat) (m := 512) (fun i hi => by have := hf i hi; show (f i).toNat < 512; omega) hi
          rw [← hpos, ho j hj, ho' j hj]
    · intro i hi
      exact ⟨by rw [ints_cell (keep x3 q3) (by omega), q4 i hi], by rw [ints_cell p3 (by omega), p4 i hi]⟩
    · have g07 : w.grownBy w7 none := grown_then g1 (grown_then g2 g27)
      have b7 := (Below.refl w.heap.size w).grown g07 (Nat.le_refl _) (by simp)
      refine b7.trans ⟨kp'.os, kp'.tape, kp'.output, kp'.size, fun j hj => kp'.block j (by omega) ?_⟩
      rintro (h | h | h | h)
      · omega
      · have := o1 _ h; omega
      · have := o2 _ h; omega
      · have := o3 _ h; omega

end Go.Proofs.Qxb6003438a
