import Derived.Test.Qxb6604693aSplit
namespace Go.Proofs.Qxb6604693a
open Go.RowKit
set_option linter.unusedVariables false
set_option linter.unusedSimpArgs false

-- The place lies outside the list.
set_option maxRecDepth 20000 in
set_option maxHeartbeats 2000000 in
theorem split_out (a : Option Addr) (n c : Nat) (F : Nat → ByteArray) (s : ByteArray) (x : Int) (w : World) (hn : n ≤ maxLen) (hs : s.size ≤ maxLen) (hF : ∀ i, i < n → (F i).size ≤ maxLen) (h : Strs w a n F) (hx : x < 0 ∨ (n : Int) < x) :
    Calls Try.prog 3 #[.slice a n c, .string s, .int .i64 x] w (Done w) := by
  have HS := hideP h
  have HF := hideP hF
  have B6 := hideP (bytes6 a n c F s x w hn hs hF h)
  have hm0 := hn
  unfold maxLen at hn hs
  clear h hF
  go_enter Try.func3, Try.ntmps3
  go_wp2_with fail
  refine B6.out.mono ?_
  rintro e w' ⟨⟨b, rfl, hb⟩, hw⟩
  replace hw := hw.symm
  subst hw
  cases b with
  | false =>
    clear hb
    go_wp2
    go_ret
    exact done_here _
  | true =>
    obtain ⟨hn1, hs1, hF1⟩ := hb rfl
    have HF1 := hideP hF1
    clear hb hF1
    by_cases e1 : 65536 < n
    · go_wp2
      go_ret
      exact done_here _
    go_wp2
    go_loop [7, 8] (fun t i => ∃ (k : Nat) (T : Int), k ≤ n ∧ i = .int .i64 k ∧ t = .int .i64 T ∧ 0 ≤ T ∧ T ≤ 2097152) (fun _ i => n - (intOf i).toNat)
    case atStart => exact ⟨0, s.size + 16 * n, by omega, rfl, by go_num, by omega, by omega⟩
    case round =>
      obtain ⟨k, T, hk, rfl, rfl, hT0, hT1⟩ := hrel
      by_cases hlt : k < n
      · rcases HS.out with h0 | ⟨b, off, e, hc⟩
        · omega
        subst e
        have q0 := hc k hlt
        have hx0 := HF1.out k hlt
        obtain ⟨y, hy⟩ : ∃ y, F k = y := ⟨_, rfl⟩
        rw [hy] at q0 hx0
        clear hc hy
        by_cases e3 : 1048576 < T + y.size
        · go_wp2
          go_ret
          exact done_here _
        · go_wp2
          go_round
          case rel => exact ⟨k + 1, T + y.size, by omega, by go_num, rfl, by omega, by omega⟩
          case measure => simp [intOf]; omega
      · have hkn : n = k := by omega
        subst hkn
        by_cases f1 : x < 0
        · clear hx
          go_wp2
          go_ret
          exact done_here _
        · have f1' : (0 : Int) ≤ x := by omega
          have f2 : (n : Int) < x := by omega
          clear hx f1
          go_wp2
          go_ret
          exact done_here _

-- What is kept where the list is nil.
structure NW (w : World) (g m : Nat) (G : Nat → ByteArray) (wr : World) : Prop where
  own : Own w.heap.size wr g m 1 G
  bel : Below w.heap.size w wr
  hg : w.heap.size ≤ g

theorem nw_new {w w2 : World} {G : Nat → ByteArray} (hown : w2.ownsRow w.heap.size 9 1 (.slice (some ⟨w.heap.size, 0, none⟩) 0 1) 0 []) (hg : w.grownBy w2 none) : NW w w.heap.size 0 G w2 :=
  ⟨hown, (Below.refl w.heap.size w).grown hg (Nat.le_refl _) (fun k e => by cases e), Nat.le_refl _⟩

theorem NW.step {w : World} {g m : Nat} {G : Nat → ByteArray} {wr w' : World} {o : Obj} {x : ByteArray} (h : NW w g m G wr) (hx : G m = x)
    (ho : w'.ownsRow w.heap.size 9 1 (.slice (some ⟨g, 0, none⟩) (m + 1) 1) (m + 1) ((List.range m).map (strs G) ++ [.string x])) (hgr : (wr.alloc o).grownBy w' (some g)) : NW w g (m + 1) G w' :=
  ⟨own_next hx ho, h.bel.grown (grown_then (World.grownBy_alloc _ _ _) hgr) h.bel.size (fun k e => by cases e; exact h.hg), h.hg⟩

set_option maxRecDepth 20000 in
set_option maxHeartbeats 2000000 in
theorem split_nil (s : ByteArray) (w : World) (hs : s.size ≤ maxLen) :
    Calls Try.prog 3 #[.slice none 0 0, .string s, .int .i64 0] w (Done w) := by
  have B6 := hideP (bytes6 none 0 0 (fun _ => s) s 0 w (by unfold maxLen; omega) hs (by omega) (.inl rfl))
  unfold maxLen at hs
  obtain ⟨i0, hi, hzz⟩ := Option.map_eq_some_iff.1 Try.info9
  simp only [Prod.mk.injEq] at hzz
  obtain ⟨hz0, hz1, hz2⟩ := hzz
  go_enter Try.func3, Try.ntmps3
  go_wp2_with fail
  refine B6.out.mono ?_
  rintro e w' ⟨⟨b, rfl, hb⟩, hw⟩
  replace hw := hw.symm
  subst hw
  cases b with
  | false =>
    clear hb
    go_wp2
    go_ret
    exact done_here _
  | true =>
    obtain ⟨hn1, hs1, _⟩ := hb rfl
    clear hb
    go_wp2
    go_loop [7, 8] (fun t i => ∃ T : Int, i = .int .i64 0 ∧ t = .int .i64 T) (fun _ i => 0)
    case atStart => exact ⟨_, rfl, rfl⟩
    case round =>
      obtain ⟨T, rfl, rfl⟩ := hrel
      have HZ : Hid (hasB 0 (fun _ => s) s = false) := rfl
      go_wp2_with fail
      refine (has_is HZ.out (by omega) (.inl rfl)).mono ?_
      rintro e w' ⟨rfl, rfl⟩
      go_wp2_with fail
      refine (has_is HZ.out (by omega) (.inl rfl)).mono ?_
      rintro e w' ⟨rfl, rfl⟩
      go_wp2_with fail
      refine (has_is HZ.out (by omega) (.inl rfl)).mono ?_
      rintro e w' ⟨rfl, rfl⟩
      go_wp2_with (at_make; refine wpList_make_own _ rfl _ _ 22 rfl w.heap.size 9 i0 (.string ByteArray.empty) 1 Try.underlying22 hi hz0 hz1 .i64 .i64 _ 1 rfl rfl (by omega) (by rw [hz2]; omega) (by unfold maxLen; omega) (Nat.le_refl _) ?_; intro w2 hown2 hgrow2; have HI := hideP (nw_new (G := fun _ => s) hown2 hgrow2); clear hown2 hgrow2)
      obtain ⟨g, hg⟩ : ∃ g, w.heap.size = g := ⟨_, rfl⟩
      have HI2 : Hid (NW w g 0 (fun _ => s) w2) := by rw [← hg]; exact HI
      rw [hg]
      clear hg HI
      go_loopw [13, 14] (fun o i wr => i = .int .i64 0 ∧ o = .slice (some ⟨g, 0, none⟩) 0 1 ∧ Hid (NW w g 0 (fun _ => s) wr)) (fun _ i _ => 0)
      case atStart => exact ⟨rfl, rfl, HI2⟩
      case round =>
        obtain ⟨rfl, rfl, HK⟩ := hrel
        go_wp2_with (at_builtin; refine wpList_append_fits _ rfl (.tmp 94) (.tmp 96) 22 rfl w.heap.size 9 i0 1 Try.underlying22 hi hz1 g 0 1 _ rfl (HK.out.own.alloc _) ⟨wr.heap.size, 0, none⟩ 1 1 [.string s] rfl rfl (cell_one_new _ _ _) (by simp [Value.oneCell']) (by omega) ?_; intro w4 hown4 hgrow4; have HN := hideP (HK.out.step rfl hown4 hgrow4); clear hown4 hgrow4)
        go_loopw [13, 15] (fun o i wr => i = .int .i64 0 ∧ o = .slice (some ⟨g, 0, none⟩) 1 1 ∧ Hid (NW w g 1 (fun _ => s) wr)) (fun _ i _ => 0)
        case atStart => exact ⟨rfl, rfl, HN⟩
        case round =>
          obtain ⟨rfl, rfl, HK⟩ := hrel
          have HT : Hid (hasB 1 (fun _ => s) s = true) := by show hasB 1 (fun _ => s) s = true; rw [hasB_one]; exact eqB_self s
          go_wp2_with fail
          refine (has_is HT.out (by omega) HK.out.own.strs).mono ?_
          rintro e w' ⟨rfl, rfl⟩
          go_wp2_with fail
          refine (has_is HZ.out (by omega) (.inl rfl)).mono ?_
          rintro e w' ⟨rfl, rfl⟩
          go_wp2
          go_ret
          exact ⟨rfl, HK.out.bel⟩
end Go.Proofs.Qxb6604693a
