import Derived.Test.Qxb6003438aLawA
namespace Go.Proofs.Qxb6003438a
open Go.RowKit
set_option linter.unusedVariables false
set_option linter.unusedSimpArgs false

-- A cell of a slice that came in, as the walk spells it.
theorem Came.at {w : World} {a : Option Addr} {len : Nat} {f : Nat → Int} (h : Came w a len f) (h0 : 0 < len) : ∃ b off, a = some ⟨b, off, none⟩ ∧ ∀ i, i < len → w.cell? ⟨b, off + i, none⟩ = some (.int .i32 (f i)) := by
  rcases h with ⟨_, h⟩ | ⟨⟨b, off, spot⟩, rfl, hc⟩
  · omega
  · have hspot : spot = none := by simpa [Addr.add] using World.cell?_spot (hc 0 h0)
    subst hspot
    exact ⟨b, off, rfl, fun i hi => by have := hc i hi; rwa [Addr.add_lit] at this⟩

theorem clone_cap {w w1 : World} {k : Nat} {f : Nat → Int} {ap : Option Addr} (r1 : ap = none ∧ k = 0 ∨ ap = some ⟨w.heap.size, 0, none⟩ ∧ w1.rowIs w.heap.size 21 k (ints f)) : ap = none → k = 0 := by
  intro h
  rcases r1 with ⟨_, h⟩ | ⟨e, _⟩
  · exact h
  · rw [h] at e; cases e
theorem clone_came {w w1 : World} {k : Nat} {f : Nat → Int} {ap : Option Addr} (r1 : ap = none ∧ k = 0 ∨ ap = some ⟨w.heap.size, 0, none⟩ ∧ w1.rowIs w.heap.size 21 k (ints f)) : Came w1 ap k f := by
  rcases r1 with h | ⟨e, r⟩
  · exact .inl h
  · exact .inr ⟨_, e, fun i hi => by rw [Addr.add_lit, Nat.zero_add]; exact ints_cell r hi⟩

-- What lies in memory behind the call of ZZOrderChunks on fresh buffers, as the laws read it.
def After (w : World) (k : Nat) (p : Nat → Nat) (ap : Option Addr) (b1 c1 b3 c3 co : Nat) (ao : Option Addr) (w' : World) : Prop :=
  (∀ j, j < 513 → w'.cell? ⟨b1, j, none⟩ = some (.int .i32 (cL p k j))) ∧ (∀ j, j < 512 → w'.cell? ⟨b3, j, none⟩ = some (.int .i32 (cL p k (j + 1)))) ∧
  (k = 0 ∨ ∃ b2, ao = some ⟨b2, 0, none⟩ ∧ ∀ i, i < k → w'.cell? ⟨b2, pos p k i, none⟩ = some (.int .i32 i)) ∧
  (k = 0 ∨ ap = some ⟨w.heap.size, 0, none⟩ ∧ ∀ i, i < k → w'.cell? ⟨w.heap.size, i, none⟩ = some (.int .i32 (p i))) ∧ Below w.heap.size w w'

theorem zz_law {w w1 w2 : World} {k : Nat} {f : Nat → Int} {ap aq : Option Addr} (hk : k ≤ 4096) (hf : ∀ j, j < k → 0 ≤ f j ∧ f j < 512) (g1 : w.grownBy w1 none)
    (r1 : ap = none ∧ k = 0 ∨ ap = some ⟨w.heap.size, 0, none⟩ ∧ w1.rowIs w.heap.size 21 k (ints f)) (g2 : w1.grownBy w2 none) (r2 : aq = none ∧ k = 0 ∨ aq = some ⟨w1.heap.size, 0, none⟩ ∧ w2.rowIs w1.heap.size 21 k (ints f)) :
    Calls Try.prog 16 #[.slice aq k k, .slice none 0 0, .slice none 0 0, .slice none 0 0] w2 fun e w' => ∃ (b1 c1 b3 c3 co : Nat) (ao : Option Addr), e = .returned (.tuple #[.slice (some ⟨b1, 0, none⟩) 513 c1, .slice ao k co, .slice (some ⟨b3, 0, none⟩) 512 c3]) ∧
      513 ≤ c1 ∧ 512 ≤ c3 ∧ After w k (fun i => (f i).toNat) ap b1 c1 b3 c3 co ao w' := by
  have hcast : ∀ j, j < k → (((f j).toNat : Nat) : Int) = f j := fun j hj => Int.toNat_of_nonneg (hf j hj).1
  refine (zz_any (fun b => w2.heap.size ≤ b) w2 (fun _ h => h) aq k k (fun i => (f i).toNat) hk (fun i hi => by have := hf i hi; show (f i).toNat < 512; omega) ?_ _ _ _ (.inl rfl) (.inl rfl) (.inl rfl) (by simp [Value.ownBlock]) (by simp [Value.ownBlock]) (by simp [Value.ownBlock])).mono ?_
  · rcases r2 with ⟨_, h⟩ | ⟨e, r⟩
    · exact .inl h
    · exact .inr ⟨_, e, by have := r.lt; omega, r.congr fun j hj => by simp only [ints, hcast j hj]⟩
  · rintro e w' ⟨v1, v2, v3, rfl, b1, c1, b3, c3, co, ao, fs, gs, rfl, rfl, rfl, h1, h3, h2, q1, q2, q3, q4, q5, kp, _, _⟩
    have bel : Below w.heap.size w w' := by
      have b2 := (((Below.refl w.heap.size w).grown g1 (Nat.le_refl _) (by simp)).grown g2 g1.size (by simp))
      have hs := b2.size
      exact b2.trans ⟨kp.os, kp.tape, kp.output, kp.size, fun j hj => kp.block j (by omega) (by omega)⟩
    refine ⟨b1, c1, b3, c3, co, ao, rfl, h1, h3, ?_, ?_, ?_, ?_, bel⟩
    · intro j hj; rw [ints_cell q1 (by omega), q2 j hj]
    · intro j hj; rw [ints_cell q3 (by omega), q4 j hj]
    · rcases q5 with h | ⟨b2, o, e, _, r, ho⟩
      · exact .inl h
      · exact .inr ⟨b2, e, fun i hi => by rw [ints_cell r (by have := pos_lt_n (fun i => (f i).toNat) hi; omega), ho i hi]⟩
    · rcases r1 with ⟨_, h⟩ | ⟨e, r⟩
      · exact .inl h
      · refine .inr ⟨e, fun i hi => ?_⟩
        have r' := row_grown r g2 (by simp)
        have hlt : w.heap.size < w2.heap.size := r'.lt
        have hb : w'.heap[w.heap.size]? = w2.heap[w.heap.size]? := kp.block w.heap.size hlt (by omega)
        rw [World.cell?_of_block (w := w2) (a := ⟨w.heap.size, i, none⟩) hb, ints_cell r' hi, hcast i hi]

theorem law6_long (a : Option Addr) (len cap : Nat) (w : World) (hl : len ≤ maxLen) (h : 4096 < len) :
    Calls Try.prog 6 #[.slice a len cap] w fun e w' => e = .returned (.bool true) ∧ Below w.heap.size w w' := by
  have hl' := hl
  unfold maxLen at hl'
  by_cases h1 : len ≤ 1048576
  · have hd : decide (len ≤ 1048576) = true := by simpa using h1
    go_enter Try.func6, Try.ntmps6
    go_wp2_with (go_at_call 14; refine (bytes14 a len cap _ hl).mono ?_; rintro e w' ⟨rfl, rfl⟩; rw [hd])
    go_ret
    exact ⟨rfl, Below.refl _ _⟩
  · have hd : decide (len ≤ 1048576) = false := by simpa using h1
    go_enter Try.func6, Try.ntmps6
    go_wp2_with (go_at_call 14; refine (bytes14 a len cap _ hl).mono ?_; rintro e w' ⟨rfl, rfl⟩; rw [hd])
    go_ret
    exact ⟨rfl, Below.refl _ _⟩

set_option maxRecDepth 20000 in
set_option maxHeartbeats 1000000 in
theorem law6_main (a : Option Addr) (len cap : Nat) (f : Nat → Int) (w : World) (hl : len ≤ 4096) (hcap : a = none → cap = 0) (hc : Came w a len f) :
    Calls Try.prog 6 #[.slice a len cap] w fun e w' => e = .returned (.bool true) ∧ Below w.heap.size w w' := by
  have hd : decide (len ≤ 1048576) = true := by simp; omega
  have HC := hideP hc
  have HCAP := hideP hcap
  clear hc hcap
  go_enter Try.func6, Try.ntmps6
  go_wp2_with (go_at_call 14; refine (bytes14 a len cap _ (by unfold maxLen; omega)).mono ?_; rintro e w' ⟨rfl, rfl⟩; rw [hd])
  go_loop [3] (fun i => ∃ k : Nat, k ≤ len ∧ i = .int .i64 k ∧ Hid (∀ j, j < k → 0 ≤ f j ∧ f j < 512)) (fun i => len - (intOf i).toNat)
  case atStart => exact ⟨0, by omega, rfl, hideP (by omega)⟩
  case round =>
    obtain ⟨k, hk, rfl, HK⟩ := hrel
    by_cases hlt : k < len
    · obtain ⟨b, off, rfl, hcell⟩ := HC.out.at (by omega)
      have q0 := hcell k hlt
      obtain ⟨x, hx⟩ : ∃ x, f k = x := ⟨_, rfl⟩
      rw [hx] at q0
      have HX := hideP hx
      clear hcell hx
      by_cases h1 : x < 0
      · go_wp2
        go_ret
        exact ⟨rfl, Below.refl _ _⟩
      · by_cases h2 : 512 ≤ x
        · go_wp2
          go_ret
          exact ⟨rfl, Below.refl _ _⟩
        · go_wp2
          go_round
          case rel =>
            refine ⟨k + 1, by omega, by go_num, hideP fun j hj => ?_⟩
            by_cases e : j = k
            · rw [e, HX.out]; omega
            · exact HK.out j (by omega)
          case measure => simp [intOf]; omega
    · have hkl : k = len := by omega
      subst hkl
      clear hlt hk
      go_wp2_with fail
      refine (clone_any a k cap f _ (by omega) HCAP.out HC.out).mono ?_
      rintro e w1 ⟨ap, rfl, hg1, hr1⟩
      have HG1 := hideP hg1
      have HR1 := hideP hr1
      clear hg1 hr1
      go_wp2_with fail
      have C1 := hideP (clone_any ap k k f w1 (by omega) (clone_cap HR1.out) (clone_came HR1.out))
      refine C1.out.mono ?_
      rintro e w2 ⟨aq, rfl, hg2, hr2⟩
      have C2 := hideP (zz_law hl HK.out HG1.out HR1.out hg2 hr2)
      clear hg2 hr2 HG1 HR1 C1
      go_wp2_with fail
      refine C2.out.mono ?_
      rintro e w3 ⟨b1, c1, b3, c3, co, ao, rfl, hc1, hc3, AF⟩
      obtain ⟨p, hpe⟩ : ∃ p : Nat → Nat, (fun i => (f i).toNat) = p := ⟨_, rfl⟩
      rw [hpe] at AF
      have HP : Hid (∀ i, i < k → p i < 512) := fun i hi => by rw [← hpe]; have := HK.out i hi; show (f i).toNat < 512; omega
      have HAF := hideP AF
      clear AF C2 hpe HK
      go_wp2
      go_loop [8] (fun v => ∃ q : Nat, q ≤ 513 ∧ v = .int .i64 q) (fun v => 513 - (intOf v).toNat)
      case atStart => exact ⟨0, by omega, rfl⟩
      case round =>
        obtain ⟨q, hq, rfl⟩ := hrel
        by_cases hq2 : q ≤ 512
        · have hst := HAF.out.1 q (by omega)
          have hcl := cL_le p k q
          go_wp2
          go_loop [9, 10] (fun c i => ∃ t : Nat, t ≤ k ∧ i = .int .i64 t ∧ c = .int .i64 (cL p t q)) (fun _ i => k - (intOf i).toNat)
          case atStart => exact ⟨0, by omega, rfl, rfl⟩
          case round =>
            obtain ⟨t, ht, rfl, rfl⟩ := hrel
            have hle := cL_le p t q
            by_cases hlt : t < k
            · rcases HAF.out.2.2.2.1 with h0 | ⟨rfl, hpc⟩
              · omega
              have hpt := hpc t hlt
              have hp5 := HP.out t hlt
              clear hpc
              by_cases hc : p t < q
              · have HS : Hid (cL p (t + 1) q = cL p t q + 1) := by show _ = _; simp [cL, hc]
                go_wp2
                go_round
                case rel => exact ⟨t + 1, by omega, by go_num, by rw [HS.out]; go_num⟩
                case measure => simp [intOf]; omega
              · have HS : Hid (cL p (t + 1) q = cL p t q) := by show _ = _; simp [cL, hc]
                go_wp2
                go_round
                case rel => exact ⟨t + 1, by omega, by go_num, by rw [HS.out]⟩
                case measure => simp [intOf]; omega
            · have htk : t = k := by omega
              subst htk
              go_wp2
              go_round
              case rel => exact ⟨q + 1, by omega, by go_num⟩
              case measure => simp [intOf]; omega
        · have hq3 : q = 513 := by omega
          subst hq3
          go_wp2
          go_loop [11] (fun v => ∃ t : Nat, t ≤ k ∧ v = .int .i64 t) (fun v => k - (intOf v).toNat)
          case atStart => exact ⟨0, by omega, rfl⟩
          case round =>
            obtain ⟨t, ht, rfl⟩ := hrel
            by_cases hlt : t < k
            · obtain ⟨_, _, hA, hB, _⟩ := HAF.out
              rcases hA with h0 | ⟨b2, rfl, ho⟩
              · omega
              rcases hB with h0 | ⟨rfl, hpc⟩
              · omega
              obtain ⟨i0, hi0, hpos0⟩ := pos_onto p HP.out hlt
              have o0 := ho i0 hi0
              rw [hpos0] at o0
              by_cases ht0 : t = 0
              · subst ht0
                clear ho hpc hpos0
                go_wp2
                go_round
                case rel => exact ⟨0 + 1, by omega, by go_num⟩
                case measure => simp [intOf]; omega
              · obtain ⟨i1, hi1, hpos1⟩ := pos_onto p HP.out (show t - 1 < k by omega)
                have o1 := ho i1 hi1
                rw [hpos1] at o1
                have hlex := pos_less_iff p hi1 hi0 (by omega)
                have p0 := hpc i0 hi0
                have p1 := hpc i1 hi1
                have l0 := HP.out i0 hi0
                have l1 := HP.out i1 hi1
                obtain ⟨x0, hx0⟩ : ∃ x, p i0 = x := ⟨_, rfl⟩
                obtain ⟨x1, hx1⟩ : ∃ x, p i1 = x := ⟨_, rfl⟩
                rw [hx0] at p0 l0 hlex
                rw [hx1] at p1 l1 hlex
                have ht1 : 1 ≤ t := by omega
                clear ho hpc hpos0 hpos1 hx0 hx1 ht0
                rcases hlex with hlex | ⟨rfl, hlex⟩
                · go_wp2
                  go_round
                  case rel => exact ⟨t + 1, by omega, by go_num⟩
                  case measure => simp [intOf]; omega
                · go_wp2
                  go_round
                  case rel => exact ⟨t + 1, by omega, by go_num⟩
                  case measure => simp [intOf]; omega
            · have htk : t = k := by omega
              subst htk
              go_wp2
              go_ret
              exact ⟨rfl, HAF.out.2.2.2.2⟩
end Go.Proofs.Qxb6003438a
