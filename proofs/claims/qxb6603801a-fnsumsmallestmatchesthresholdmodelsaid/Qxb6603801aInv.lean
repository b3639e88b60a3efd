import Derived.Test.Qxb6603801aBase
namespace Go.Proofs.Qxb6603801a
open Go.RowKit
set_option linter.unusedVariables false
set_option linter.unusedSimpArgs false

theorem sw_out {a b j : Nat} (V : Nat → Int) (h1 : j ≠ a) (h2 : j ≠ b) : sw a b V j = V j := by
  unfold sw; rw [if_neg h2, if_neg h1]
theorem sw_snd (a b : Nat) (V : Nat → Int) : sw a b V b = V a := by unfold sw; rw [if_pos rfl]
theorem sw_fst (a b : Nat) (V : Nat → Int) : sw a b V a = V b := by
  unfold sw
  by_cases e : a = b
  · rw [if_pos e, e]
  · rw [if_neg e, if_pos rfl]

-- What is known of the two rows between two passes: [l, h) is where the border lies.
structure Pass (X : Nat → Prop) (w0 : World) (bv bw n : Nat) (V0 W0 : Nat → Int) (r0 : Int) (l h : Nat) (V W : Nat → Int) (wr : World) : Prop where
  lh : l < h
  hn : h ≤ n
  rv : wr.rowIs bv 3 n (ints V)
  rw : wr.rowIs bw 3 n (ints W)
  eqv : Eqv n V0 W0 V W
  nn : ∀ j, j < n → 0 ≤ W j
  left : ∀ j k, j < l → l ≤ k → k < h → V j < V k
  right : ∀ j k, l ≤ k → k < h → h ≤ j → j < n → V k < V j
  r1 : 1 ≤ r0 - sm l W
  r2 : r0 ≤ sm h W
  kept : Kept X w0 wr

-- What is known within a pass: [l, b) below t, [b, i) at t, [a, h) above t; outside [l, h) nothing has turned since the pass began.
structure Part (X : Nat → Prop) (w0 : World) (bv bw n : Nat) (V0 W0 : Nat → Int) (l h : Nat) (V1 W1 : Nat → Int) (t : Int) (b i a : Nat) (V W : Nat → Int) (wr : World) : Prop where
  o1 : l ≤ b
  o2 : b ≤ i
  o3 : i ≤ a
  o4 : a ≤ h
  hn : h ≤ n
  rv : wr.rowIs bv 3 n (ints V)
  rw : wr.rowIs bw 3 n (ints W)
  eqv : Eqv n V0 W0 V W
  nn : ∀ j, j < n → 0 ≤ W j
  left : ∀ j k, j < l → l ≤ k → k < h → V j < V k
  right : ∀ j k, l ≤ k → k < h → h ≤ j → j < n → V k < V j
  below : ∀ j, l ≤ j → j < b → V j < t
  at_ : ∀ j, b ≤ j → j < i → V j = t
  above : ∀ j, a ≤ j → j < h → t < V j
  piv : ∃ m, l ≤ m ∧ m < h ∧ V m = t
  sv : ∀ j, j < l → V j = V1 j
  sw_ : ∀ j, j < l → W j = W1 j
  sh : sm h W = sm h W1
  kept : Kept X w0 wr

theorem Part.start {X : Nat → Prop} {w0 : World} {bv bw n : Nat} {V0 W0 : Nat → Int} {r0 : Int} {l h m : Nat} {V W : Nat → Int} {wr : World} (p : Pass X w0 bv bw n V0 W0 r0 l h V W wr) (h1 : l ≤ m) (h2 : m < h) :
    Part X w0 bv bw n V0 W0 l h V W (V m) l l h V W wr :=
  ⟨Nat.le_refl _, Nat.le_refl _, Nat.le_of_lt p.lh, Nat.le_refl _, p.hn, p.rv, p.rw, p.eqv, p.nn, p.left, p.right, by omega, by omega, by omega, ⟨m, h1, h2, rfl⟩, fun _ _ => rfl, fun _ _ => rfl, rfl, p.kept⟩

theorem sw_nn {n a b : Nat} {W : Nat → Int} (nn : ∀ j, j < n → 0 ≤ W j) (ha : a < n) (hb : b < n) : ∀ j, j < n → 0 ≤ sw a b W j := by
  intro j hj
  rw [sw_at]
  split
  · exact nn _ ha
  · split
    · exact nn _ hb
    · exact nn _ hj

-- Two places of [l, h) change what they hold.
theorem Part.swap {X : Nat → Prop} {w0 : World} {bv bw n : Nat} {V0 W0 : Nat → Int} {l h : Nat} {V1 W1 : Nat → Int} {t : Int} {b i a : Nat} {V W : Nat → Int} {wr : World} (p : Part X w0 bv bw n V0 W0 l h V1 W1 t b i a V W wr)
    {x y b' i' a' : Nat} (hx : l ≤ x) (hx' : x < h) (hy : l ≤ y) (hy' : y < h) {wr' : World} (rv : wr'.rowIs bv 3 n (ints (sw x y V))) (rw_ : wr'.rowIs bw 3 n (ints (sw x y W))) (kept : Kept X w0 wr')
    (o1 : l ≤ b') (o2 : b' ≤ i') (o3 : i' ≤ a') (o4 : a' ≤ h) (below : ∀ j, l ≤ j → j < b' → sw x y V j < t) (at_ : ∀ j, b' ≤ j → j < i' → sw x y V j = t) (above : ∀ j, a' ≤ j → j < h → t < sw x y V j) :
    Part X w0 bv bw n V0 W0 l h V1 W1 t b' i' a' (sw x y V) (sw x y W) wr' := by
  have hn := p.hn
  have inn : ∀ k, l ≤ k → k < h → l ≤ (if k = y then x else if k = x then y else k) ∧ (if k = y then x else if k = x then y else k) < h := by
    intro k h1 h2
    split
    · exact ⟨hx, hx'⟩
    · split
      · exact ⟨hy, hy'⟩
      · exact ⟨h1, h2⟩
  refine ⟨o1, o2, o3, o4, hn, rv, rw_, p.eqv.sw (by omega) (by omega), sw_nn p.nn (by omega) (by omega), ?_, ?_, below, at_, above, ?_, ?_, ?_, ?_, kept⟩
  · intro j k hj h1 h2
    rw [sw_out V (by omega) (by omega), sw_at]
    exact p.left j _ hj (inn k h1 h2).1 (inn k h1 h2).2
  · intro j k h1 h2 hj hj'
    rw [sw_out (j := j) V (by omega) (by omega), sw_at]
    exact p.right j _ (inn k h1 h2).1 (inn k h1 h2).2 hj hj'
  · obtain ⟨m, m1, m2, m3⟩ := p.piv
    by_cases e1 : m = x
    · exact ⟨y, hy, hy', by rw [sw_snd, ← e1]; exact m3⟩
    · by_cases e2 : m = y
      · exact ⟨x, hx, hx', by rw [sw_fst, ← e2]; exact m3⟩
      · exact ⟨m, m1, m2, by rw [sw_out V e1 e2]; exact m3⟩
  · intro j hj; rw [sw_out V (by omega) (by omega)]; exact p.sv j hj
  · intro j hj; rw [sw_out W (by omega) (by omega)]; exact p.sw_ j hj
  · rw [← p.sh]
    exact sm_sw (fun _ w => w) V W hx' hy'

theorem Part.less {X : Nat → Prop} {w0 : World} {bv bw n : Nat} {V0 W0 : Nat → Int} {l h : Nat} {V1 W1 : Nat → Int} {t : Int} {b i a : Nat} {V W : Nat → Int} {wr : World} (p : Part X w0 bv bw n V0 W0 l h V1 W1 t b i a V W wr) (hi : i < a) (hlt : V i < t)
    {wr' : World} (rv : wr'.rowIs bv 3 n (ints (sw i b V))) (rw_ : wr'.rowIs bw 3 n (ints (sw i b W))) (kept : Kept X w0 wr') : Part X w0 bv bw n V0 W0 l h V1 W1 t (b + 1) (i + 1) a (sw i b V) (sw i b W) wr' := by
  have o1 := p.o1; have o2 := p.o2; have o3 := p.o3; have o4 := p.o4
  refine p.swap (by omega) (by omega) (by omega) (by omega) rv rw_ kept (by omega) (by omega) (by omega) o4 ?_ ?_ ?_
  · intro j h1 h2
    by_cases e : j = b
    · rw [e, sw_snd]; exact hlt
    · rw [sw_out V (by omega) e]; exact p.below j h1 (by omega)
  · intro j h1 h2
    by_cases e : j = i
    · rw [e, sw_fst]; exact p.at_ b (by omega) (by omega)
    · rw [sw_out V e (by omega)]; exact p.at_ j (by omega) (by omega)
  · intro j h1 h2
    rw [sw_out V (by omega) (by omega)]; exact p.above j h1 h2

theorem Part.more {X : Nat → Prop} {w0 : World} {bv bw n : Nat} {V0 W0 : Nat → Int} {l h : Nat} {V1 W1 : Nat → Int} {t : Int} {b i a : Nat} {V W : Nat → Int} {wr : World} (p : Part X w0 bv bw n V0 W0 l h V1 W1 t b i a V W wr) (hi : i < a) (hgt : t < V i)
    {wr' : World} (rv : wr'.rowIs bv 3 n (ints (sw i (a - 1) V))) (rw_ : wr'.rowIs bw 3 n (ints (sw i (a - 1) W))) (kept : Kept X w0 wr') : Part X w0 bv bw n V0 W0 l h V1 W1 t b i (a - 1) (sw i (a - 1) V) (sw i (a - 1) W) wr' := by
  have o1 := p.o1; have o2 := p.o2; have o3 := p.o3; have o4 := p.o4
  refine p.swap (by omega) (by omega) (by omega) (by omega) rv rw_ kept (by omega) (by omega) (by omega) (by omega) ?_ ?_ ?_
  · intro j h1 h2
    rw [sw_out V (by omega) (by omega)]; exact p.below j h1 h2
  · intro j h1 h2
    rw [sw_out V (by omega) (by omega)]; exact p.at_ j h1 h2
  · intro j h1 h2
    by_cases e : j = a - 1
    · rw [e, sw_snd]; exact hgt
    · rw [sw_out V (by omega) e]; exact p.above j (by omega) h2

theorem Part.same {X : Nat → Prop} {w0 : World} {bv bw n : Nat} {V0 W0 : Nat → Int} {l h : Nat} {V1 W1 : Nat → Int} {t : Int} {b i a : Nat} {V W : Nat → Int} {wr : World} (p : Part X w0 bv bw n V0 W0 l h V1 W1 t b i a V W wr) (hi : i < a) (heq : V i = t) :
    Part X w0 bv bw n V0 W0 l h V1 W1 t b (i + 1) a V W wr := by
  have o2 := p.o2
  refine ⟨p.o1, by omega, by omega, p.o4, p.hn, p.rv, p.rw, p.eqv, p.nn, p.left, p.right, p.below, ?_, p.above, p.piv, p.sv, p.sw_, p.sh, p.kept⟩
  intro j h1 h2
  by_cases e : j = i
  · rw [e]; exact heq
  · exact p.at_ j h1 (by omega)

-- Only draws since.
theorem Part.alike {X : Nat → Prop} {w0 : World} {bv bw n : Nat} {V0 W0 : Nat → Int} {l h : Nat} {V1 W1 : Nat → Int} {t : Int} {b i a : Nat} {V W : Nat → Int} {wr : World} (p : Part X w0 bv bw n V0 W0 l h V1 W1 t b i a V W wr) (m : Nat) :
    Part X w0 bv bw n V0 W0 l h V1 W1 t b i a V W (wr.drewN m) :=
  ⟨p.o1, p.o2, p.o3, p.o4, p.hn, p.rv, p.rw, p.eqv, p.nn, p.left, p.right, p.below, p.at_, p.above, p.piv, p.sv, p.sw_, p.sh, ⟨p.kept.os, p.kept.tape, p.kept.output, p.kept.size, p.kept.block⟩⟩

section
variable {X : Nat → Prop} {w0 : World} {bv bw n : Nat} {V0 W0 : Nat → Int} {r0 : Int} {l h : Nat} {V1 W1 : Nat → Int} {t : Int} {b a : Nat} {V W : Nat → Int} {wr : World}

-- The pass is over: the pivot's own stretch holds something.
theorem Part.mid (p : Part X w0 bv bw n V0 W0 l h V1 W1 t b a a V W wr) : b < a := by
  obtain ⟨m, m1, m2, m3⟩ := p.piv
  by_cases e1 : m < b
  · have := p.below m m1 e1; omega
  · by_cases e2 : a ≤ m
    · have := p.above m e2 m2; omega
    · omega

theorem Part.smW (p : Part X w0 bv bw n V0 W0 l h V1 W1 t b a a V W wr) : sm l W = sm l W1 := sm_congr p.sw_
theorem Part.smX (p : Part X w0 bv bw n V0 W0 l h V1 W1 t b a a V W wr) : sm l (fun j => W j * V j) = sm l (fun j => W1 j * V1 j) := sm_congr fun j hj => by rw [p.sv j hj, p.sw_ j hj]

theorem Part.goLow (p : Part X w0 bv bw n V0 W0 l h V1 W1 t b a a V W wr) (r1 : 1 ≤ r0 - sm l W1) (hr : r0 ≤ sm b W) : Pass X w0 bv bw n V0 W0 r0 l b V W wr := by
  have hm := p.mid
  have o1 := p.o1; have o4 := p.o4; have hn := p.hn; have hw := p.smW
  refine ⟨?_, by omega, p.rv, p.rw, p.eqv, p.nn, fun j k h1 h2 h3 => p.left j k h1 h2 (by omega), ?_, by omega, hr, p.kept⟩
  · by_cases e : l = b
    · subst e; omega
    · omega
  · intro j k h1 h2 h3 h4
    have hk := p.below k h1 h2
    by_cases e1 : j < a
    · have := p.at_ j h3 e1; omega
    · by_cases e2 : j < h
      · have := p.above j (by omega) e2; omega
      · exact p.right j k h1 (by omega) (by omega) h4

theorem Part.goHigh (p : Part X w0 bv bw n V0 W0 l h V1 W1 t b a a V W wr) (r2 : r0 ≤ sm h W1) (hr : sm a W < r0) : Pass X w0 bv bw n V0 W0 r0 a h V W wr := by
  have hm := p.mid
  have o1 := p.o1; have o4 := p.o4; have hn := p.hn; have hs := p.sh
  refine ⟨?_, hn, p.rv, p.rw, p.eqv, p.nn, ?_, fun j k h1 h2 h3 h4 => p.right j k (by omega) h2 h3 h4, by omega, by omega, p.kept⟩
  · by_cases e : a = h
    · subst e; omega
    · omega
  · intro j k h1 h2 h3
    have hk := p.above k h2 h3
    by_cases e1 : j < l
    · exact p.left j k e1 (by omega) h3
    · by_cases e2 : j < b
      · have := p.below j (by omega) e2; omega
      · have := p.at_ j (by omega) h1; omega

theorem Part.parted (p : Part X w0 bv bw n V0 W0 l h V1 W1 t b a a V W wr) : Parted n b a V t := by
  have hm := p.mid
  have o1 := p.o1; have o4 := p.o4; have hn := p.hn
  have hb := p.at_ b (Nat.le_refl _) hm
  refine ⟨by omega, by omega, ?_, fun j h1 h2 => p.at_ j h1 h2, ?_⟩
  · intro j hj
    by_cases e : j < l
    · have := p.left j b e (by omega) (by omega); omega
    · exact p.below j (by omega) hj
  · intro j h1 h2
    by_cases e : j < h
    · exact p.above j h1 e
    · have := p.right j b (by omega) (by omega) (by omega) h2; omega

-- The pivot's stretch adds up to its weight times the pivot.
theorem Part.midX (p : Part X w0 bv bw n V0 W0 l h V1 W1 t b a a V W wr) : sm a (fun j => W j * V j) = sm b (fun j => W j * V j) + (sm a W - sm b W) * t := by
  have hm := p.mid
  have key : ∀ k, b ≤ k → k ≤ a → sm k (fun j => W j * V j) = sm b (fun j => W j * V j) + (sm k W - sm b W) * t := by
    intro k
    induction k with
    | zero => intro h1 _
              have : b = 0 := by omega
              subst this; simp
    | succ k ih =>
      intro h1 h2
      by_cases e : b = k + 1
      · subst e; simp
      · have := ih (by omega) (by omega)
        rw [sm_succ, sm_succ, this, p.at_ k (by omega) (by omega)]
        have e1 : sm k W + W k - sm b W = (sm k W - sm b W) + W k := by omega
        rw [e1, Int.add_mul]
        omega
  exact key a (by omega) (Nat.le_refl _)

end
end Go.Proofs.Qxb6603801a
