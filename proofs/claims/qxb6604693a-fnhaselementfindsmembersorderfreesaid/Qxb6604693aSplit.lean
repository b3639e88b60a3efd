import Derived.Test.Qxb6604693aOwn
namespace Go.Proofs.Qxb6604693a
open Go.RowKit
set_option linter.unusedVariables false
set_option linter.unusedSimpArgs false

def Done (w : World) (e : Ending) (w' : World) : Prop := e = .returned (.bool true) ∧ Below w.heap.size w w'
theorem done_here (w : World) : Done w (.returned (.bool true)) w := ⟨rfl, Below.refl _ _⟩

theorem alloc_cell {w : World} {a : Addr} {v : Value} (o : Obj) (h : w.cell? a = some v) : (w.alloc o).cell? a = some v := (World.grownBy_alloc w o none).cell h (by simp)
theorem has_is {a : Option Addr} {n c : Nat} {F : Nat → ByteArray} {s : ByteArray} {w : World} {L : Bool} (hL : hasB n F s = L) (hn : n ≤ 1048576) (h : Strs w a n F) :
    Calls Try.prog 7 #[.slice a n c, .string s] w fun e w' => e = .returned (.bool L) ∧ w = w' :=
  (has_any a n c F s w hn h).mono fun e w' ⟨h1, h2⟩ => ⟨by rw [h1, hL], h2.symm⟩
theorem hasB_split (n m : Nat) (hm : m ≤ n) (F : Nat → ByteArray) (s : ByteArray) : hasB n F s = (hasB m F s || hasB (n - m) (fun i => F (m + i)) s) := by
  rw [Bool.eq_iff_iff]
  simp only [Bool.or_eq_true, hasB_iff]
  constructor
  · rintro ⟨i, hi, h⟩
    by_cases e : i < m
    · exact .inl ⟨i, e, h⟩
    · exact .inr ⟨i - m, by omega, by rw [show m + (i - m) = i by omega]; exact h⟩
  · rintro (⟨i, hi, h⟩ | ⟨i, hi, h⟩)
    · exact ⟨i, by omega, h⟩
    · exact ⟨m + i, by omega, h⟩

-- The list with s put in at m.
def ins (m : Nat) (F : Nat → ByteArray) (s : ByteArray) : Nat → ByteArray := fun i => if i < m then F i else if i = m then s else F (i - 1)
theorem ins_lt {m k : Nat} (F : Nat → ByteArray) (s : ByteArray) (h : k < m) : ins m F s k = F k := by simp [ins, h]
theorem ins_at (m : Nat) (F : Nat → ByteArray) (s : ByteArray) : ins m F s m = s := by simp [ins]
theorem ins_gt {m k : Nat} (F : Nat → ByteArray) (s : ByteArray) (h : m ≤ k) : ins m F s (k + 1) = F k := by
  have h1 : ¬ k + 1 < m := by omega
  have h2 : ¬ k + 1 = m := by omega
  simp [ins, h1, h2]
theorem hasB_ins (n m : Nat) (hm : m ≤ n) (F : Nat → ByteArray) (s : ByteArray) : hasB (n + 1) (ins m F s) s = true :=
  (hasB_iff _ _ _).2 ⟨m, by omega, by rw [ins_at]; exact eqB_self s⟩
theorem hasB_one (F : Nat → ByteArray) (s : ByteArray) : hasB 1 F s = eqB (F 0) s := by simp [hasB]

-- What is known of the list behind the copy.
structure Cop (w : World) (n : Nat) (F : Nat → ByteArray) (w1 : World) : Prop where
  rl : w1.rowIs w.heap.size 9 n (strs F)
  bel : Below w.heap.size w w1

theorem cop_of {w w1 : World} {n : Nat} {F : Nat → ByteArray} {o : Obj} (hr : w1.rowIs w.heap.size 9 n (strs F)) (hg : (w.alloc o).grownBy w1 (some w.heap.size)) : Cop w n F w1 :=
  ⟨hr, ((Below.refl w.heap.size w).alloc (Nat.le_refl _) _).grown hg (by simp) (fun k e => by cases e; exact Nat.le_refl _)⟩

theorem iw_new {w w1 w2 : World} {n cap : Nat} {F G : Nat → ByteArray} (h : Cop w n F w1) (hown : w2.ownsRow w.heap.size 9 1 (.slice (some ⟨w1.heap.size, 0, none⟩) 0 cap) 0 []) (hg : w1.grownBy w2 none) : IW w w.heap.size n w1.heap.size F 0 cap G w2 :=
  ⟨row_grown h.rl hg (by simp), hown, h.bel.grown hg h.bel.size (fun k e => by cases e), by have := h.rl.lt; omega, h.bel.size⟩

set_option maxRecDepth 20000 in
set_option maxHeartbeats 4000000 in
theorem split_row_lt (ad : Addr) (n c : Nat) (F : Nat → ByteArray) (s : ByteArray) (m : Nat) (w : World) (hn : n ≤ maxLen) (hs : s.size ≤ maxLen) (hF : ∀ i, i < n → (F i).size ≤ maxLen) (h : Strs w (some ad) n F) (hc : ∀ i, i < n → w.cell? (ad.add i) = some (.string (F i))) (hmn : m < n) :
    Calls Try.prog 3 #[.slice (some ad) n c, .string s, .int .i64 m] w (Done w) := by
  have HS := hideP h
  have HF := hideP hF
  have HC := hideP hc
  have B6 := hideP (bytes6 (some ad) n c F s m w hn hs hF h)
  have hm0 := hn
  unfold maxLen at hn hs
  obtain ⟨i0, hi, hzz⟩ := Option.map_eq_some_iff.1 Try.info9
  simp only [Prod.mk.injEq] at hzz
  obtain ⟨hz0, hz1, hz2⟩ := hzz
  clear h hF hc
  go_enter Try.func3, Try.ntmps3
  go_wp2_with fail
  refine B6.out.mono ?_
  rintro e w' ⟨⟨b, rfl, hb⟩, hw⟩
  replace hw := hw.symm
  subst hw
  cases b with
  | false =>
    clear hb
    go_wp2
    go_ret
    exact done_here _
  | true =>
    obtain ⟨hn1, hs1, hF1⟩ := hb rfl
    have HF1 := hideP hF1
    clear hb hF1
    by_cases e1 : 65536 < n
    · go_wp2
      go_ret
      exact done_here _
    go_wp2
    go_loop [7, 8] (fun t i => ∃ (k : Nat) (T : Int), k ≤ n ∧ i = .int .i64 k ∧ t = .int .i64 T ∧ 0 ≤ T ∧ T ≤ 2097152) (fun _ i => n - (intOf i).toNat)
    case atStart => exact ⟨0, s.size + 16 * n, by omega, rfl, by go_num, by omega, by omega⟩
    case round =>
      obtain ⟨k, T, hk, rfl, rfl, hT0, hT1⟩ := hrel
      by_cases hlt : k < n
      · rcases HS.out with h0 | ⟨b, off, e, hc⟩
        · omega
        cases e
        have q0 := hc k hlt
        have hx0 := HF1.out k hlt
        obtain ⟨y, hy⟩ : ∃ y, F k = y := ⟨_, rfl⟩
        rw [hy] at q0 hx0
        clear hc hy
        by_cases e3 : 1048576 < T + y.size
        · go_wp2
          go_ret
          exact done_here _
        · go_wp2
          go_round
          case rel => exact ⟨k + 1, T + y.size, by omega, by go_num, rfl, by omega, by omega⟩
          case measure => simp [intOf]; omega
      · have hkn : n = k := by omega
        subst hkn
        have hmk' : m ≤ n := by omega
        have hmk := run_make_row' (P := Try.prog) 22 9 (.string ByteArray.empty) 16 Try.underlying22 Try.info9 rfl .i64 .i64 n (by omega) (by omega)
        obtain ⟨L, hL⟩ : ∃ L, hasB m F s = L := ⟨_, rfl⟩
        obtain ⟨R, hR⟩ : ∃ R, hasB (n - m) (fun i => F (m + i)) s = R := ⟨_, rfl⟩
        obtain ⟨A, hA⟩ : ∃ A, hasB n F s = A := ⟨_, rfl⟩
        have HA : Hid ((A == (L || R)) = true) := by
          have h := hasB_split n m hmk' F s
          skip
          show (A == (L || R)) = true
          rw [beq_iff_eq, ← hA, ← hL, ← hR]
          exact h
        have HL := hideP hL
        have HR := hideP hR
        have HQ := hideP hA
        clear hL hR hA
        go_wp2_with (refine wpList_copy_in rfl (.tmp 61) (.tmp 62) rfl w.heap.size n c ad (fun _ => .string ByteArray.empty) F rfl rfl (World.rowIs_made _ _ _ _) (fun i hi => alloc_cell _ (HC.out i hi)) ?_; intro w1 hr1 hg1; have HR1 := hideP (cop_of hr1 hg1); clear hr1 hg1)
        refine (has_is HQ.out hn1 (row_strs HR1.out.rl (Nat.le_refl _))).mono ?_
        rintro e w' ⟨rfl, rfl⟩
        go_wp2_with fail
        refine (has_is HL.out (by omega) (row_strs HR1.out.rl hmk')).mono ?_
        rintro e w' ⟨rfl, rfl⟩
        go_wp2_with fail
        refine (has_is HR.out (by omega) (row_strs_from HR1.out.rl (by omega))).mono ?_
        rintro e w' ⟨rfl, rfl⟩
        have hbase := HR1.out.bel.size
        go_wp2_with (at_make; refine wpList_make_own _ rfl _ _ 22 rfl w.heap.size 9 i0 (.string ByteArray.empty) 1 Try.underlying22 hi hz0 hz1 .i64 .i64 _ (n + 1) rfl rfl (by omega) (by rw [hz2]; omega) (by unfold maxLen; omega) hbase ?_; intro w2 hown2 hgrow2; have HI := hideP (iw_new (G := ins m F s) HR1.out hown2 hgrow2); clear hown2 hgrow2 hbase)
        obtain ⟨g, hg⟩ : ∃ g, w1.heap.size = g := ⟨_, rfl⟩
        rw [hg] at HI ⊢
        clear hg
        go_loopw [13, 14] (fun o i wr => ∃ k : Nat, k ≤ m ∧ i = .int .i64 k ∧ o = .slice (some ⟨g, 0, none⟩) k (n + 1) ∧ Hid (IW w w.heap.size n g F k (n + 1) (ins m F s) wr)) (fun _ i _ => m - (intOf i).toNat)
        case atStart => exact ⟨0, by omega, rfl, rfl, HI⟩
        case round =>
          obtain ⟨k, hk, rfl, rfl, HK⟩ := hrel
          by_cases hlt : k < m
          · have hkn : k < n := by omega
            have q0 := strs_cell HK.out.rl hkn
            have HX := hideP (ins_lt F s hlt)
            obtain ⟨y, hy⟩ : ∃ y, F k = y := ⟨_, rfl⟩
            rw [hy] at q0 HX
            clear hy
            go_wp2_with (at_builtin; refine wpList_append_fits _ rfl (.tmp 87) (.tmp 92) 22 rfl w.heap.size 9 i0 1 Try.underlying22 hi hz1 g k (n + 1) _ rfl (HK.out.own.alloc _) ⟨wr.heap.size, 0, none⟩ 1 1 [.string y] rfl rfl (cell_one_new _ _ _) (by simp [Value.oneCell']) (by omega) ?_; intro w4 hown4 hgrow4; have HN := hideP (HK.out.step HX.out hown4 hgrow4); clear hown4 hgrow4)
            go_roundw
            case rel => exact ⟨k + 1, by omega, by go_num, rfl, HN⟩
            case measure => simp [intOf]; omega
          · have hkm : m = k := by omega
            subst hkm
            have HX := hideP (ins_at m F s)
            go_wp2_with (at_builtin; refine wpList_append_fits _ rfl (.tmp 94) (.tmp 96) 22 rfl w.heap.size 9 i0 1 Try.underlying22 hi hz1 g m (n + 1) _ rfl (HK.out.own.alloc _) ⟨wr.heap.size, 0, none⟩ 1 1 [.string s] rfl rfl (cell_one_new _ _ _) (by simp [Value.oneCell']) (by omega) ?_; intro w4 hown4 hgrow4; have HN := hideP (HK.out.step HX.out hown4 hgrow4); clear hown4 hgrow4)
            go_loopw [13, 15] (fun o i wr => ∃ k : Nat, m ≤ k ∧ k ≤ n ∧ i = .int .i64 k ∧ o = .slice (some ⟨g, 0, none⟩) (k + 1) (n + 1) ∧ Hid (IW w w.heap.size n g F (k + 1) (n + 1) (ins m F s) wr)) (fun _ i _ => n - (intOf i).toNat)
            case atStart => exact ⟨m, Nat.le_refl _, hmk', rfl, rfl, HN⟩
            case round =>
              obtain ⟨k, hmk2, hk, rfl, rfl, HK⟩ := hrel
              by_cases hlt : k < n
              · have q0 := strs_cell HK.out.rl hlt
                have HX := hideP (ins_gt F s hmk2)
                obtain ⟨y, hy⟩ : ∃ y, F k = y := ⟨_, rfl⟩
                rw [hy] at q0 HX
                clear hy
                go_wp2_with (at_builtin; refine wpList_append_fits _ rfl (.tmp 105) (.tmp 110) 22 rfl w.heap.size 9 i0 1 Try.underlying22 hi hz1 g (k + 1) (n + 1) _ rfl (HK.out.own.alloc _) ⟨wr.heap.size, 0, none⟩ 1 1 [.string y] rfl rfl (cell_one_new _ _ _) (by simp [Value.oneCell']) (by omega) ?_; intro w4 hown4 hgrow4; have HN := hideP (HK.out.step HX.out hown4 hgrow4); clear hown4 hgrow4)
                go_roundw
                case rel => exact ⟨k + 1, by omega, by omega, by go_num, rfl, HN⟩
                case measure => simp [intOf]; omega
              · have hkm : n = k := by omega
                subst hkm
                have HT := hideP (hasB_ins n m hmk' F s)
                have HZ : Hid (hasB 0 F s = false) := rfl
                by_cases hpos : 0 < n
                · have q0 := strs_cell HK.out.rl hpos
                  have HF0 := hideP (HF1.out 0 hpos)
                  obtain ⟨y, hy⟩ : ∃ y, F 0 = y := ⟨_, rfl⟩
                  have HO := hideP (hasB_one F s)
                  rw [hy] at q0 HO HF0
                  clear hy
                  obtain ⟨E, hE⟩ : ∃ E, eqB y s = E := ⟨_, rfl⟩
                  rw [hE] at HO
                  have HE := hideP hE
                  clear hE
                  go_wp2
                  go_quiet (first | (go_at_call 7; exact Calls.quiet_of_same ((has_is HO.out (by omega) (row_strs (HK.out.drewN _).rl (by omega))).mono fun e w' h => ⟨h.1, h.2.symm⟩)) | (go_at_call 8; exact Calls.quiet_of (HE.out ▸ same_any y s _ HF0.out hs1)))
                  have HAA : A = (L || R) := by simpa using HA.out
                  subst HAA
                  cases L with
                  | true =>
                    go_wp2_with fail
                    refine (has_is HT.out (by omega) ((HK.out.drewN nq).own.strs)).mono ?_
                    rintro e w' ⟨rfl, rfl⟩
                    go_wp2_with fail
                    refine (has_is HZ.out (by omega) (.inl rfl)).mono ?_
                    rintro e w' ⟨rfl, rfl⟩
                    go_wp2
                    go_ret
                    exact ⟨rfl, (HK.out.drewN nq).bel⟩
                  | false =>
                    cases R with
                    | true =>
                      go_wp2_with fail
                      refine (has_is HT.out (by omega) ((HK.out.drewN nq).own.strs)).mono ?_
                      rintro e w' ⟨rfl, rfl⟩
                      go_wp2_with fail
                      refine (has_is HZ.out (by omega) (.inl rfl)).mono ?_
                      rintro e w' ⟨rfl, rfl⟩
                      go_wp2
                      go_ret
                      exact ⟨rfl, (HK.out.drewN nq).bel⟩
                    | false =>
                      go_wp2_with fail
                      refine (has_is HT.out (by omega) ((HK.out.drewN nq).own.strs)).mono ?_
                      rintro e w' ⟨rfl, rfl⟩
                      go_wp2_with fail
                      refine (has_is HZ.out (by omega) (.inl rfl)).mono ?_
                      rintro e w' ⟨rfl, rfl⟩
                      go_wp2
                      go_ret
                      exact ⟨rfl, (HK.out.drewN nq).bel⟩
                · omega

set_option maxRecDepth 20000 in
set_option maxHeartbeats 4000000 in
theorem split_row_eq (ad : Addr) (n c : Nat) (F : Nat → ByteArray) (s : ByteArray)  (w : World) (hn : n ≤ maxLen) (hs : s.size ≤ maxLen) (hF : ∀ i, i < n → (F i).size ≤ maxLen) (h : Strs w (some ad) n F) (hc : ∀ i, i < n → w.cell? (ad.add i) = some (.string (F i)))  :
    Calls Try.prog 3 #[.slice (some ad) n c, .string s, .int .i64 n] w (Done w) := by
  have HS := hideP h
  have HF := hideP hF
  have HC := hideP hc
  have B6 := hideP (bytes6 (some ad) n c F s n w hn hs hF h)
  have hm0 := hn
  unfold maxLen at hn hs
  obtain ⟨i0, hi, hzz⟩ := Option.map_eq_some_iff.1 Try.info9
  simp only [Prod.mk.injEq] at hzz
  obtain ⟨hz0, hz1, hz2⟩ := hzz
  clear h hF hc
  go_enter Try.func3, Try.ntmps3
  go_wp2_with fail
  refine B6.out.mono ?_
  rintro e w' ⟨⟨b, rfl, hb⟩, hw⟩
  replace hw := hw.symm
  subst hw
  cases b with
  | false =>
    clear hb
    go_wp2
    go_ret
    exact done_here _
  | true =>
    obtain ⟨hn1, hs1, hF1⟩ := hb rfl
    have HF1 := hideP hF1
    clear hb hF1
    by_cases e1 : 65536 < n
    · go_wp2
      go_ret
      exact done_here _
    go_wp2
    go_loop [7, 8] (fun t i => ∃ (k : Nat) (T : Int), k ≤ n ∧ i = .int .i64 k ∧ t = .int .i64 T ∧ 0 ≤ T ∧ T ≤ 2097152) (fun _ i => n - (intOf i).toNat)
    case atStart => exact ⟨0, s.size + 16 * n, by omega, rfl, by go_num, by omega, by omega⟩
    case round =>
      obtain ⟨k, T, hk, rfl, rfl, hT0, hT1⟩ := hrel
      by_cases hlt : k < n
      · rcases HS.out with h0 | ⟨b, off, e, hc⟩
        · omega
        cases e
        have q0 := hc k hlt
        have hx0 := HF1.out k hlt
        obtain ⟨y, hy⟩ : ∃ y, F k = y := ⟨_, rfl⟩
        rw [hy] at q0 hx0
        clear hc hy
        by_cases e3 : 1048576 < T + y.size
        · go_wp2
          go_ret
          exact done_here _
        · go_wp2
          go_round
          case rel => exact ⟨k + 1, T + y.size, by omega, by go_num, rfl, by omega, by omega⟩
          case measure => simp [intOf]; omega
      · have hkn : n = k := by omega
        subst hkn
        have hmk' : n ≤ n := by omega
        have hmk := run_make_row' (P := Try.prog) 22 9 (.string ByteArray.empty) 16 Try.underlying22 Try.info9 rfl .i64 .i64 n (by omega) (by omega)
        obtain ⟨L, hL⟩ : ∃ L, hasB n F s = L := ⟨_, rfl⟩
        obtain ⟨R, hR⟩ : ∃ R, hasB (0) (fun i => F (n + i)) s = R := ⟨_, rfl⟩
        obtain ⟨A, hA⟩ : ∃ A, hasB n F s = A := ⟨_, rfl⟩
        have HA : Hid ((A == (L || R)) = true) := by
          have h := hasB_split n n hmk' F s
          rw [Nat.sub_self] at h
          show (A == (L || R)) = true
          rw [beq_iff_eq, ← hA, ← hL, ← hR]
          exact h
        have HL := hideP hL
        have HR := hideP hR
        have HQ := hideP hA
        clear hL hR hA
        go_wp2_with (refine wpList_copy_in rfl (.tmp 61) (.tmp 62) rfl w.heap.size n c ad (fun _ => .string ByteArray.empty) F rfl rfl (World.rowIs_made _ _ _ _) (fun i hi => alloc_cell _ (HC.out i hi)) ?_; intro w1 hr1 hg1; have HR1 := hideP (cop_of hr1 hg1); clear hr1 hg1)
        refine (has_is HQ.out hn1 (row_strs HR1.out.rl (Nat.le_refl _))).mono ?_
        rintro e w' ⟨rfl, rfl⟩
        go_wp2_with fail
        refine (has_is HL.out (by omega) (row_strs HR1.out.rl hmk')).mono ?_
        rintro e w' ⟨rfl, rfl⟩
        go_wp2_with fail
        refine (has_is HR.out (by omega) (.inl rfl)).mono ?_
        rintro e w' ⟨rfl, rfl⟩
        have hbase := HR1.out.bel.size
        go_wp2_with (at_make; refine wpList_make_own _ rfl _ _ 22 rfl w.heap.size 9 i0 (.string ByteArray.empty) 1 Try.underlying22 hi hz0 hz1 .i64 .i64 _ (n + 1) rfl rfl (by omega) (by rw [hz2]; omega) (by unfold maxLen; omega) hbase ?_; intro w2 hown2 hgrow2; have HI := hideP (iw_new (G := ins n F s) HR1.out hown2 hgrow2); clear hown2 hgrow2 hbase)
        obtain ⟨g, hg⟩ : ∃ g, w1.heap.size = g := ⟨_, rfl⟩
        rw [hg] at HI ⊢
        clear hg
        go_loopw [13, 14] (fun o i wr => ∃ k : Nat, k ≤ n ∧ i = .int .i64 k ∧ o = .slice (some ⟨g, 0, none⟩) k (n + 1) ∧ Hid (IW w w.heap.size n g F k (n + 1) (ins n F s) wr)) (fun _ i _ => n - (intOf i).toNat)
        case atStart => exact ⟨0, by omega, rfl, rfl, HI⟩
        case round =>
          obtain ⟨k, hk, rfl, rfl, HK⟩ := hrel
          by_cases hlt : k < n
          · have hkn : k < n := by omega
            have q0 := strs_cell HK.out.rl hkn
            have HX := hideP (ins_lt F s hlt)
            obtain ⟨y, hy⟩ : ∃ y, F k = y := ⟨_, rfl⟩
            rw [hy] at q0 HX
            clear hy
            go_wp2_with (at_builtin; refine wpList_append_fits _ rfl (.tmp 87) (.tmp 92) 22 rfl w.heap.size 9 i0 1 Try.underlying22 hi hz1 g k (n + 1) _ rfl (HK.out.own.alloc _) ⟨wr.heap.size, 0, none⟩ 1 1 [.string y] rfl rfl (cell_one_new _ _ _) (by simp [Value.oneCell']) (by omega) ?_; intro w4 hown4 hgrow4; have HN := hideP (HK.out.step HX.out hown4 hgrow4); clear hown4 hgrow4)
            go_roundw
            case rel => exact ⟨k + 1, by omega, by go_num, rfl, HN⟩
            case measure => simp [intOf]; omega
          · have hkm : n = k := by omega
            subst hkm
            have HX := hideP (ins_at n F s)
            go_wp2_with (at_builtin; refine wpList_append_fits _ rfl (.tmp 94) (.tmp 96) 22 rfl w.heap.size 9 i0 1 Try.underlying22 hi hz1 g n (n + 1) _ rfl (HK.out.own.alloc _) ⟨wr.heap.size, 0, none⟩ 1 1 [.string s] rfl rfl (cell_one_new _ _ _) (by simp [Value.oneCell']) (by omega) ?_; intro w4 hown4 hgrow4; have HN := hideP (HK.out.step HX.out hown4 hgrow4); clear hown4 hgrow4)
            go_loopw [13, 15] (fun o i wr => ∃ k : Nat, n ≤ k ∧ k ≤ n ∧ i = .int .i64 k ∧ o = .slice (some ⟨g, 0, none⟩) (k + 1) (n + 1) ∧ Hid (IW w w.heap.size n g F (k + 1) (n + 1) (ins n F s) wr)) (fun _ i _ => n - (intOf i).toNat)
            case atStart => exact ⟨n, Nat.le_refl _, hmk', rfl, rfl, HN⟩
            case round =>
              obtain ⟨k, hmk2, hk, rfl, rfl, HK⟩ := hrel
              by_cases hlt : k < n
              · omega
              · have hkm : n = k := by omega
                subst hkm
                have HT := hideP (hasB_ins n n hmk' F s)
                have HZ : Hid (hasB 0 F s = false) := rfl
                by_cases hpos : 0 < n
                · have q0 := strs_cell HK.out.rl hpos
                  have HF0 := hideP (HF1.out 0 hpos)
                  obtain ⟨y, hy⟩ : ∃ y, F 0 = y := ⟨_, rfl⟩
                  have HO := hideP (hasB_one F s)
                  rw [hy] at q0 HO HF0
                  clear hy
                  obtain ⟨E, hE⟩ : ∃ E, eqB y s = E := ⟨_, rfl⟩
                  rw [hE] at HO
                  have HE := hideP hE
                  clear hE
                  go_wp2
                  go_quiet (first | (go_at_call 7; exact Calls.quiet_of_same ((has_is HO.out (by omega) (row_strs (HK.out.drewN _).rl (by omega))).mono fun e w' h => ⟨h.1, h.2.symm⟩)) | (go_at_call 8; exact Calls.quiet_of (HE.out ▸ same_any y s _ HF0.out hs1)))
                  have HAA : A = (L || R) := by simpa using HA.out
                  subst HAA
                  cases L with
                  | true =>
                    go_wp2_with fail
                    refine (has_is HT.out (by omega) ((HK.out.drewN nq).own.strs)).mono ?_
                    rintro e w' ⟨rfl, rfl⟩
                    go_wp2_with fail
                    refine (has_is HZ.out (by omega) (.inl rfl)).mono ?_
                    rintro e w' ⟨rfl, rfl⟩
                    go_wp2
                    go_ret
                    exact ⟨rfl, (HK.out.drewN nq).bel⟩
                  | false =>
                    cases R with
                    | true =>
                      go_wp2_with fail
                      refine (has_is HT.out (by omega) ((HK.out.drewN nq).own.strs)).mono ?_
                      rintro e w' ⟨rfl, rfl⟩
                      go_wp2_with fail
                      refine (has_is HZ.out (by omega) (.inl rfl)).mono ?_
                      rintro e w' ⟨rfl, rfl⟩
                      go_wp2
                      go_ret
                      exact ⟨rfl, (HK.out.drewN nq).bel⟩
                    | false =>
                      go_wp2_with fail
                      refine (has_is HT.out (by omega) ((HK.out.drewN nq).own.strs)).mono ?_
                      rintro e w' ⟨rfl, rfl⟩
                      go_wp2_with fail
                      refine (has_is HZ.out (by omega) (.inl rfl)).mono ?_
                      rintro e w' ⟨rfl, rfl⟩
                      go_wp2
                      go_ret
                      exact ⟨rfl, (HK.out.drewN nq).bel⟩
                · have hn0 : n = 0 := by omega
                  subst hn0
                  have HAA : A = (L || R) := by simpa using HA.out
                  subst HAA
                  cases L with
                  | true =>
                    go_wp2_with fail
                    refine (has_is HT.out (by omega) (HK.out.own.strs)).mono ?_
                    rintro e w' ⟨rfl, rfl⟩
                    go_wp2_with fail
                    refine (has_is HZ.out (by omega) (.inl rfl)).mono ?_
                    rintro e w' ⟨rfl, rfl⟩
                    go_wp2
                    go_ret
                    exact ⟨rfl, HK.out.bel⟩
                  | false =>
                    cases R with
                    | true =>
                      go_wp2_with fail
                      refine (has_is HT.out (by omega) (HK.out.own.strs)).mono ?_
                      rintro e w' ⟨rfl, rfl⟩
                      go_wp2_with fail
                      refine (has_is HZ.out (by omega) (.inl rfl)).mono ?_
                      rintro e w' ⟨rfl, rfl⟩
                      go_wp2
                      go_ret
                      exact ⟨rfl, HK.out.bel⟩
                    | false =>
                      go_wp2_with fail
                      refine (has_is HT.out (by omega) (HK.out.own.strs)).mono ?_
                      rintro e w' ⟨rfl, rfl⟩
                      go_wp2_with fail
                      refine (has_is HZ.out (by omega) (.inl rfl)).mono ?_
                      rintro e w' ⟨rfl, rfl⟩
                      go_wp2
                      go_ret
                      exact ⟨rfl, HK.out.bel⟩
end Go.Proofs.Qxb6604693a
