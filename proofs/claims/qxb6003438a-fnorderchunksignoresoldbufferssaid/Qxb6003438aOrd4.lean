import Derived.Test.Qxb6003438aOrd3
import Derived.Deep.QuietTactic
import Derived.BigQuiet
namespace Go.Proofs.Qxb6003438a
open Go.RowKit
set_option linter.unusedVariables false
set_option linter.unusedSimpArgs false

theorem InBuf.form {B : Nat → Prop} {w : World} {v : Value} (h : InBuf B w v) : ∃ (a : Option Addr) (l c : Nat), v = .slice a l c := by
  rcases h with rfl | ⟨b, l, c, f, rfl, _⟩
  · exact ⟨_, _, _, rfl⟩
  · exact ⟨_, _, _, rfl⟩

theorem St.setPart {B : Nat → Prop} {w0 : World} {S C n : Nat} {p : Nat → Nat} {vst vor vco : Value} {w : World} (h : St B w0 S C n p vst vor vco w) (hne : S ≠ C) (k t : Nat) :
    St B w0 S C n (fun i => if i = k then t else p i) vst vor vco (w.setCell ⟨C, k * 4 + 3, none⟩ (.int .i32 t)) := by
  have o : ∀ j, (w.setCell ⟨C, k * 4 + 3, none⟩ (.int .i32 t)).cell? ⟨S, j, none⟩ = w.cell? ⟨S, j, none⟩ := fun j => World.cell?_setCell_other _ _ _ _ (by intro e; exact hne (congrArg Addr.block e).symm)
  refine ⟨by rw [o]; exact h.ch, by rw [o]; exact h.st, by rw [o]; exact h.or, by rw [o]; exact h.co, fun j => by rw [World.frozen?_setCell]; exact h.fr j, ?_, h.bel.setCell h.hC _, h.hS, h.hC, h.hB⟩
  refine (h.row.set (k * 4 + 3) _).congr fun j hj => ?_
  by_cases e : j = k * 4 + 3
  · have e1 : j % 4 = 3 := by omega
    have e2 : j / 4 = k := by omega
    simp only [if_pos e, chk, if_pos e1, e2, if_true]
  · rw [if_neg e]
    unfold chk
    by_cases e1 : j % 4 = 3
    · have e2 : ¬ j / 4 = k := by omega
      rw [if_pos e1, if_pos e1]
      simp only [if_neg e2]
    · rw [if_neg e1, if_neg e1]

theorem St.congr {B : Nat → Prop} {w0 : World} {S C n : Nat} {p p' : Nat → Nat} {vst vor vco : Value} {w : World} (h : St B w0 S C n p vst vor vco w) (e : ∀ i, i < n → p i = p' i) : St B w0 S C n p' vst vor vco w := by
  refine ⟨h.ch, h.st, h.or, h.co, h.fr, h.row.congr fun j hj => ?_, h.bel, h.hS, h.hC, h.hB⟩
  unfold chk
  rw [e (j / 4) (by omega)]

theorem grown_drewN (w : World) (n : Nat) : w.grownBy (w.drewN n) none := ⟨rfl, rfl, rfl, Nat.le_refl _, fun _ _ _ => rfl⟩

-- What the loop of ZZOrderChunks keeps: the first k parts are laid.
def LP (B : Nat → Prop) (w0 : World) (S C n : Nat) (p : Nat → Nat) (vst vor vco : Value) (i : Value) (wr : World) : Prop :=
  ∃ k : Nat, k ≤ n ∧ i = .int .i64 k ∧ St B w0 S C n (fun i => if i < k then p i else 0) vst vor vco wr ∧ InBuf B wr vst ∧ InBuf B wr vor ∧ InBuf B wr vco

theorem LP_start {B : Nat → Prop} {w : World} {n : Nat} {p : Nat → Nat} {vst vor vco : Value} {M Z : Array Value} (hX : ∀ k, w.heap.size ≤ k → B k) (hM : ∀ w : World, (w.alloc (.cells M 66)).rowIs w.heap.size 66 (4 * n) (chk (fun _ => 0)))
    (h0 : Z.size = 1040) (h1 : Z[1036]? = some vst) (h2 : Z[1037]? = some vor) (h3 : Z[1038]? = some vco) (h4 : Z[1029]? = some (.slice (some ⟨w.heap.size, 0, none⟩) n n)) (i1 : InBuf B w vst) (i2 : InBuf B w vor) (i3 : InBuf B w vco) :
    LP B w (w.heap.size + 1) w.heap.size n p vst vor vco (.int .i64 0) ((w.alloc (.cells M 66)).alloc (.cells Z 64)) := by
  have g : w.grownBy ((w.alloc (.cells M 66)).alloc (.cells Z 64)) none := grown_then (World.grownBy_alloc _ _ _) (World.grownBy_alloc _ _ _)
  have hb : ((w.alloc (.cells M 66)).alloc (.cells Z 64)).heap[w.heap.size + 1]? = some (.cells Z 64 (0, 0)) := heap_alloc2_new w _ _
  have k : ∀ j, ((w.alloc (.cells M 66)).alloc (.cells Z 64)).cell? ⟨w.heap.size + 1, j, none⟩ = Z[j]? := fun j => cell_of_row _ _ j Z 64 (0, 0) hb
  refine ⟨0, by omega, rfl, ⟨by rw [k]; exact h4, by rw [k]; exact h1, by rw [k]; exact h2, by rw [k]; exact h3, fun o => frozen_of_row _ _ o Z 64 hb, ?_, (Kept.refl B w).grown g (by simp), hX _ (by omega), hX _ (by omega), hX⟩, i1.grown g (by simp), i2.grown g (by simp), i3.grown g (by simp)⟩
  refine ((hM w).alloc _).congr fun j hj => ?_
  simp

theorem LP_step {B : Nat → Prop} {w0 : World} {S C n : Nat} {p : Nat → Nat} {vst vor vco : Value} {wr : World} {k : Nat} (hk : k < n) (hne : S ≠ C) (hst : St B w0 S C n (fun i => if i < k then p i else 0) vst vor vco wr)
    (i1 : InBuf B wr vst) (i2 : InBuf B wr vor) (i3 : InBuf B wr vco) (e1 : vst.ownBlock ≠ some C) (e2 : vor.ownBlock ≠ some C) (e3 : vco.ownBlock ≠ some C) :
    LP B w0 S C n p vst vor vco (.int .i64 ((k : Int) + 1)) (wr.setCell ⟨C, k * 4 + 3, none⟩ (.int .i32 (p k))).drew := by
  have g : wr.grownBy (wr.setCell ⟨C, k * 4 + 3, none⟩ (.int .i32 (p k))).drew (some C) := grown_draw (grown_setCell _ _ _)
  refine ⟨k + 1, by omega, by go_num, ?_, i1.grown g ?_, i2.grown g ?_, i3.grown g ?_⟩
  · refine ((hst.setPart hne k (p k)).grown (grown_drew _ none) (by simp)).congr fun i hi => ?_
    by_cases e : i = k
    · rw [if_pos e, if_pos (by omega), e]
    · rw [if_neg e]
      by_cases h : i < k
      · rw [if_pos h, if_pos (by omega)]
      · rw [if_neg h, if_neg (by omega)]
  · intro b e; cases e; exact e1
  · intro b e; cases e; exact e2
  · intro b e; cases e; exact e3

-- What ZZOrderChunks hands back.
def Res (X : Nat → Prop) (w : World) (n : Nat) (p : Nat → Nat) (v1 v2 v3 : Value) (w' : World) : Prop :=
  ∃ (b1 c1 b3 c3 co : Nat) (ao : Option Addr) (f g : Nat → Int), v1 = .slice (some ⟨b1, 0, none⟩) 513 c1 ∧ v2 = .slice ao n co ∧ v3 = .slice (some ⟨b3, 0, none⟩) 512 c3 ∧ 513 ≤ c1 ∧ 512 ≤ c3 ∧ n ≤ co ∧
    w'.rowIs b1 21 c1 (ints f) ∧ (∀ j, j < 513 → f j = (cL p n j : Int)) ∧ w'.rowIs b3 21 c3 (ints g) ∧ (∀ j, j < 512 → g j = (cL p n (j + 1) : Int)) ∧
    (n = 0 ∨ ∃ (b2 : Nat) (o : Nat → Int), ao = some ⟨b2, 0, none⟩ ∧ X b2 ∧ w'.rowIs b2 21 co (ints o) ∧ ∀ i, i < n → o (pos p n i) = (i : Int)) ∧ Kept X w w' ∧ X b1 ∧ X b3

set_option maxRecDepth 20000 in
set_option maxHeartbeats 1000000 in
theorem zz_any (X : Nat → Prop) (w : World) (hX : ∀ k, w.heap.size ≤ k → X k) (ap : Option Addr) (cp n : Nat) (p : Nat → Nat) (hn : n ≤ 4096) (hp : ∀ i, i < n → p i < 512)
    (hpar : n = 0 ∨ ∃ bp, ap = some ⟨bp, 0, none⟩ ∧ ¬ X bp ∧ w.rowIs bp 21 n (ints fun i => (p i : Int)))
    (vst vor vco : Value) (h1 : InBuf X w vst) (h2 : InBuf X w vor) (h3 : InBuf X w vco) 
    (hso : ∀ b, vst.ownBlock = some b → vor.ownBlock ≠ some b) (hsc : ∀ b, vst.ownBlock = some b → vco.ownBlock ≠ some b) (hoc : ∀ b, vor.ownBlock = some b → vco.ownBlock ≠ some b) :
    Calls Try.prog 16 #[.slice ap n cp, vst, vor, vco] w fun e w' => ∃ v1 v2 v3, e = .returned (.tuple #[v1, v2, v3]) ∧ Res X w n p v1 v2 v3 w' := by
  obtain ⟨M, hM, hmk⟩ := make_chunks n hn
  have lt : ∀ {v : Value}, InBuf X w v → v.ownBlock ≠ some w.heap.size ∧ v.ownBlock ≠ some (w.heap.size + 1) := fun hv => ⟨fun e => by have := (hv.own e).2; omega, fun e => by have := (hv.own e).2; omega⟩
  obtain ⟨e1, e1'⟩ := lt h1
  obtain ⟨e2, e2'⟩ := lt h2
  obtain ⟨e3, e3'⟩ := lt h3
  obtain ⟨a1, l1, k1, rfl⟩ := h1.form
  obtain ⟨a2, l2, k2, rfl⟩ := h2.form
  obtain ⟨a3, l3, k3, rfl⟩ := h3.form
  have LS := hideP (fun (Z : Array Value) (z0 : Z.size = 1040) (z1 : Z[1036]? = some (.slice a1 l1 k1)) (z2 : Z[1037]? = some (.slice a2 l2 k2)) (z3 : Z[1038]? = some (.slice a3 l3 k3)) (z4 : Z[1029]? = some (.slice (some ⟨w.heap.size, 0, none⟩) n n)) => LP_start (p := p) hX hM z0 z1 z2 z3 z4 h1 h2 h3)
  have LN := hideP (fun (wr : World) (k : Nat) (hk : k < n) (hst : St X w (w.heap.size + 1) w.heap.size n (fun i => if i < k then p i else 0) (.slice a1 l1 k1) (.slice a2 l2 k2) (.slice a3 l3 k3) wr) (i1 : InBuf X wr (.slice a1 l1 k1)) (i2 : InBuf X wr (.slice a2 l2 k2)) (i3 : InBuf X wr (.slice a3 l3 k3)) => LP_step (p := p) hk (by omega) hst i1 i2 i3 e1 e2 e3)
  have OA := hideP (fun (wr : World) (hst : St X w (w.heap.size + 1) w.heap.size n p (.slice a1 l1 k1) (.slice a2 l2 k2) (.slice a3 l3 k3) wr) (i1 : InBuf X wr (.slice a1 l1 k1)) (i2 : InBuf X wr (.slice a2 l2 k2)) (i3 : InBuf X wr (.slice a3 l3 k3)) => order_any X w (w.heap.size + 1) w.heap.size n p _ _ _ wr hst (by omega) hn hp i1 i2 i3 e1' e1 e2' e2 e3' e3 hso hsc hoc)
  have HPAR := hideP hpar
  have HP := hideP hp
  clear hX hM h1 h2 h3 e1 e1' e2 e2' e3 e3' hso hsc hoc hpar hp lt
  go_enter Try.func16, Try.ntmps16
  go_wp2_with (refine wpList_build_big rfl (.tmp 13) (.tmp 14) (.tmp 15) (.tmp 18) rfl a1 a2 a3 _ l1 k1 l2 k2 l3 k3 n n rfl rfl rfl rfl ?_; intro Z z0 z1 z2 z3 z4; have L0 := hideP (LS.out Z z0 z1 z2 z3 z4); clear z0 z1 z2 z3 z4)
  clear LS
  go_loopw [23] (fun i wr => LP X w (w.heap.size + 1) w.heap.size n p (.slice a1 l1 k1) (.slice a2 l2 k2) (.slice a3 l3 k3) i wr) (fun i _ => n - (intOf i).toNat)
  case atStart => exact L0.out
  case round =>
    unfold LP at hrel
    obtain ⟨k, hk, rfl, hst, i1, i2, i3⟩ := hrel
    by_cases hlt : k < n
    · have R := LN.out wr k hlt hst i1 i2 i3
      have hpk := HP.out k hlt
      rcases HPAR.out with h0 | ⟨bp, rfl, hbX, hrp⟩
      · omega
      have q0 := ints_cell hrp hlt
      have q1 : wr.cell? ⟨bp, k, none⟩ = some (.int .i32 (p k)) := (World.cell?_of_block (w := w) (hst.bel.block bp hrp.lt hbX)).trans q0
      have q2 := hst.ch
      have q3 := hst.row.cell (i := k * 4 + 3) (by omega)
      rw [chk3] at q3
      have q4 := hst.row.frozen (k * 4 + 3)
      obtain ⟨t, ht⟩ : ∃ t, p k = t := ⟨_, rfl⟩
      rw [ht] at q1 R hpk
      have HR := hideP R
      clear R hst i1 i2 i3 q0 ht hbX hrp OA LN HPAR HP
      go_wp2
      go_region
      go_wp2
      go_roundw
      case rel => exact HR.out
      case measure => simp [intOf]; omega
    · have hkn : k = n := by omega
      subst hkn
      have C := hideP (OA.out wr (hst.congr fun i hi => by rw [if_pos hi]) i1 i2 i3)
      clear hst i1 i2 i3 OA LN L0 HPAR HP
      go_wp2_with (go_at_call 23; refine C.out.mono ?_; rintro e w' ⟨rfl, D⟩; obtain ⟨b1, c1, b3, c3, co, ao, f, g', r1, r2, r3, r4, r5, r6, r7, r8, T, r9, r10, r11⟩ := D; have t1 := T.st; have t2 := T.or; have t3 := T.co; have HD := hideP (And.intro r1 (And.intro r2 (And.intro r3 (And.intro r4 (And.intro r5 (And.intro r6 (And.intro r7 (And.intro r8 (And.intro T.bel (And.intro r9 r10)))))))))); clear r1 r2 r3 r4 r5 r6 r7 r8 T r9 r10 r11)
      go_quiet (fail)
      go_wp2
      go_ret3
      obtain ⟨r1, r2, r3, r4, r5, r6, r7, r8, r9, r10, r11⟩ := HD.out
      have g : w'.grownBy (w'.drewN nq) none := grown_drewN w' nq
      refine ⟨_, _, _, rfl, b1, c1, b3, c3, co, ao, f, g', rfl, rfl, rfl, r1, r2, r3, row_grown r4 g (by simp), r5, row_grown r6 g (by simp), r7, ?_, r9.grown g (by simp), r10, r11⟩
      rcases r8 with h | ⟨b2, o, e, k1, _, _, _, _, r, ho⟩
      · exact .inl h
      · exact .inr ⟨b2, o, e, k1, row_grown r g (by simp), ho⟩
end Go.Proofs.Qxb6003438a
