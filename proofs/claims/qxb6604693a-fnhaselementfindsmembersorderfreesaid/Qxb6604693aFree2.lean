import Derived.Test.Qxb6604693aFree
namespace Go.Proofs.Qxb6604693a
open Go.RowKit
set_option linter.unusedVariables false
set_option linter.unusedSimpArgs false


set_option maxRecDepth 20000 in
set_option maxHeartbeats 4000000 in
theorem free_row_zero (ad : Addr) (n c : Nat) (F : Nat → ByteArray) (s : ByteArray) (w : World) (hn : n ≤ maxLen) (hs : s.size ≤ maxLen) (hF : ∀ i, i < n → (F i).size ≤ maxLen) (h : Strs w (some ad) n F) (hc : ∀ i, i < n → w.cell? (ad.add i) = some (.string (F i))) (hpos : ¬ 0 < n) :
    Calls Try.prog 4 #[.slice (some ad) n c, .string s] w (Done w) := by
  have HS := hideP h
  have HF := hideP hF
  have HC := hideP hc
  have B9 := hideP (bytes9 (some ad) n c F s w hn hs hF h)
  have hm0 := hn
  unfold maxLen at hn hs
  obtain ⟨i0, hi, hzz⟩ := Option.map_eq_some_iff.1 Try.info9
  simp only [Prod.mk.injEq] at hzz
  obtain ⟨hz0, hz1, hz2⟩ := hzz
  clear h hF hc
  go_enter Try.func4, Try.ntmps4
  go_wp2_with fail
  refine B9.out.mono ?_
  rintro e w' ⟨⟨b, rfl, hb⟩, hw⟩
  replace hw := hw.symm
  subst hw
  cases b with
  | false =>
    clear hb
    go_wp2
    go_ret
    exact done_here _
  | true =>
    obtain ⟨hn1, hs1, hF1⟩ := hb rfl
    have HF1 := hideP hF1
    clear hb hF1
    have e1 : ¬ 65536 < n := by omega
    go_wp2
    go_loop [5, 6] (fun t i => ∃ (k : Nat) (T : Int), k ≤ n ∧ i = .int .i64 k ∧ t = .int .i64 T ∧ 0 ≤ T ∧ T ≤ 2097152) (fun _ i => n - (intOf i).toNat)
    case atStart => exact ⟨0, s.size + 16 * n, by omega, rfl, by go_num, by omega, by omega⟩
    case round =>
      obtain ⟨k, T, hk, rfl, rfl, hT0, hT1⟩ := hrel
      by_cases hlt : k < n
      · exact absurd hlt (by omega)
      · have hkn : n = k := by omega
        subst hkn
        have hmk := run_make_row' (P := Try.prog) 22 9 (.string ByteArray.empty) 16 Try.underlying22 Try.info9 rfl .i64 .i64 n (by omega) (by omega)
        obtain ⟨A, hA⟩ : ∃ A, hasB n F s = A := ⟨_, rfl⟩
        have HQ := hideP hA
        have HQR := hideP ((hasB_rev n F s).trans hA)
        have HQD := hideP ((hasB_dbl n F s).trans hA)
        clear hA
        go_wp2_with (refine wpList_copy_in rfl (.tmp 53) (.tmp 54) rfl w.heap.size n c ad (fun _ => .string ByteArray.empty) F rfl rfl (World.rowIs_made _ _ _ _) (fun i hi => alloc_cell _ (HC.out i hi)) ?_; intro w1 hr1 hg1; have HR1 := hideP (cop_of hr1 hg1); clear hr1 hg1)
        skip
        obtain ⟨g, hg⟩ : ∃ g, w1.heap.size = g := ⟨_, rfl⟩
        have HI := hideP (rw_new HR1.out)
        rw [hg] at HI ⊢
        clear hg
        go_loopw [10] (fun i wr => ∃ k : Nat, k ≤ n ∧ i = .int .i64 k ∧ Hid (RW w n F g k wr)) (fun i _ => n - (intOf i).toNat)
        case atStart => exact ⟨0, by omega, rfl, HI⟩
        case round =>
          obtain ⟨k, hk, rfl, HK⟩ := hrel
          by_cases hlt : k < n
          · exact absurd hlt (by omega)
          · have hkn : n = k := by omega
            subst hkn
            have K := hideP HK.out.k1
            have hbase := K.out.bel.size
            go_wp2_with (at_make; refine wpList_make_own _ rfl _ _ 22 rfl w.heap.size 9 i0 (.string ByteArray.empty) 1 Try.underlying22 hi hz0 hz1 .i64 .i64 _ (2 * n) rfl rfl (by omega) (by rw [hz2]; omega) (by unfold maxLen; omega) hbase ?_; intro w2 hown2 hgrow2; have HD := hideP (dw_new (G := dbl n F) K.out hown2 hgrow2); clear hown2 hgrow2 hbase)
            obtain ⟨d, hd⟩ : ∃ d, wr.heap.size = d := ⟨_, rfl⟩
            rw [hd] at HD ⊢
            clear hd K HK
            go_loopw [11, 12] (fun o i wr => ∃ k : Nat, k ≤ n ∧ i = .int .i64 k ∧ o = .slice (some ⟨d, 0, none⟩) k (2 * n) ∧ Hid (DW w n F w.heap.size g (rev n F) d k (2 * n) (dbl n F) wr)) (fun _ i _ => n - (intOf i).toNat)
            case atStart => exact ⟨0, by omega, rfl, rfl, HD⟩
            case round =>
              obtain ⟨k, hk, rfl, rfl, HK⟩ := hrel
              by_cases hlt : k < n
              · exact absurd hlt (by omega)
              · have hkn : n = k := by omega
                subst hkn
                go_wp2
                go_loopw [11, 13] (fun o i wr => ∃ k : Nat, k ≤ n ∧ i = .int .i64 k ∧ o = .slice (some ⟨d, 0, none⟩) (n + k) (2 * n) ∧ Hid (DW w n F w.heap.size g (rev n F) d (n + k) (2 * n) (dbl n F) wr)) (fun _ i _ => n - (intOf i).toNat)
                case atStart => exact ⟨0, by omega, rfl, rfl, HK⟩
                case round =>
                  obtain ⟨k, hk, rfl, rfl, HK⟩ := hrel
                  by_cases hlt : k < n
                  · exact absurd hlt (by omega)
                  · have hkn : n = k := by omega
                    subst hkn
                    have hbase := HK.out.k.bel.size
                    go_wp2_with (at_make; refine wpList_make_own _ rfl _ _ 22 rfl w.heap.size 9 i0 (.string ByteArray.empty) 1 Try.underlying22 hi hz0 hz1 .i64 .i64 _ n rfl rfl (by omega) (by rw [hz2]; omega) (by unfold maxLen; omega) hbase ?_; intro w2 hown2 hgrow2; have HE := hideP (ew_new (s := s) HK.out hown2 hgrow2); clear hown2 hgrow2 hbase)
                    obtain ⟨v, hv⟩ : ∃ v, wr.heap.size = v := ⟨_, rfl⟩
                    rw [hv] at HE ⊢
                    clear hv HK
                    go_loopw [14, 15] (fun o i wr => ∃ k q : Nat, k ≤ n ∧ q ≤ k ∧ i = .int .i64 k ∧ o = .slice (some ⟨v, 0, none⟩) q n ∧ Hid (EW w n F w.heap.size g (rev n F) d (n + n) (dbl n F) s v q n wr)) (fun _ i _ => n - (intOf i).toNat)
                    case atStart => exact ⟨0, 0, by omega, by omega, rfl, rfl, HE⟩
                    case round =>
                      obtain ⟨k, q, hk, hq, rfl, rfl, HK⟩ := hrel
                      by_cases hlt : k < n
                      · exact absurd hlt (by omega)
                      · have hkn : n = k := by omega
                        subst hkn
                        obtain ⟨H, hH, hHs⟩ := HK.out.without
                        have HH := hideP hH
                        have HHs := hideP hHs
                        clear hH hHs
                        go_wp2_with fail
                        refine (has_is HQ.out hn1 HK.out.k.cl.strs).mono ?_
                        rintro e w' ⟨rfl, rfl⟩
                        go_wp2_with fail
                        refine (has_is HQR.out hn1 HK.out.k.cr.strs).mono ?_
                        rintro e w' ⟨rfl, rfl⟩
                        go_wp2_with fail
                        refine (has_is HQD.out (by omega) HK.out.cd.strs).mono ?_
                        rintro e w' ⟨rfl, rfl⟩
                        go_wp2_with fail
                        refine (has_is HHs.out (by omega) HH.out).mono ?_
                        rintro e w' ⟨rfl, rfl⟩
                        go_wp2
                        go_ret
                        exact ⟨rfl, HK.out.k.bel⟩

set_option maxRecDepth 20000 in
set_option maxHeartbeats 2000000 in
theorem free_nil (s : ByteArray) (w : World) (hs : s.size ≤ maxLen) :
    Calls Try.prog 4 #[.slice none 0 0, .string s] w (Done w) := by
  have B9 := hideP (bytes9 none 0 0 (fun _ => s) s w (by unfold maxLen; omega) hs (by omega) (.inl rfl))
  unfold maxLen at hs
  have HZ : Hid (hasB 0 (fun _ => s) s = false) := rfl
  have hmk : ∀ w, (Instr.makeSlice 22 (.int .i64 0) (.int .i64 0)).run Try.prog w = .ok (.slice (some ⟨w.heap.size, 0, none⟩) 0 0) (w.alloc (.cells (madeCells #[.string ByteArray.empty] 0) 9)) := run_make_row' (P := Try.prog) 22 9 (.string ByteArray.empty) 16 Try.underlying22 Try.info9 rfl .i64 .i64 0 (by omega) (by omega)
  obtain ⟨ob, hob⟩ : ∃ ob, Obj.cells (madeCells #[.string ByteArray.empty] 0) 9 = ob := ⟨_, rfl⟩
  rw [hob] at hmk
  clear hob
  go_enter Try.func4, Try.ntmps4
  go_wp2_with fail
  refine B9.out.mono ?_
  rintro e w' ⟨⟨b, rfl, hb⟩, hw⟩
  replace hw := hw.symm
  subst hw
  cases b with
  | false =>
    clear hb
    go_wp2
    go_ret
    exact done_here _
  | true =>
    obtain ⟨hn1, hs1, _⟩ := hb rfl
    clear hb
    go_wp2
    go_loop [5, 6] (fun t i => ∃ T : Int, i = .int .i64 0 ∧ t = .int .i64 T) (fun _ i => 0)
    case atStart => exact ⟨_, rfl, rfl⟩
    case round =>
      obtain ⟨T, rfl, rfl⟩ := hrel
      go_wp2
      go_loop [10] (fun i => i = .int .i64 0) (fun _ => 0)
      case atStart => rfl
      case round =>
        subst hrel
        go_wp2
        go_loop [11, 12] (fun o i => i = .int .i64 0 ∧ ∃ b, o = .slice (some ⟨b, 0, none⟩) 0 0) (fun _ _ => 0)
        case atStart => exact ⟨rfl, _, rfl⟩
        case round =>
          obtain ⟨rfl, b1, rfl⟩ := hrel
          go_wp2
          go_loop [11, 13] (fun o i => i = .int .i64 0 ∧ ∃ b, o = .slice (some ⟨b, 0, none⟩) 0 0) (fun _ _ => 0)
          case atStart => exact ⟨rfl, _, rfl⟩
          case round =>
            obtain ⟨rfl, b2, rfl⟩ := hrel
            go_wp2
            go_loop [14, 15] (fun o i => i = .int .i64 0 ∧ ∃ b, o = .slice (some ⟨b, 0, none⟩) 0 0) (fun _ _ => 0)
            case atStart => exact ⟨rfl, _, rfl⟩
            case round =>
              obtain ⟨rfl, b3, rfl⟩ := hrel
              go_wp2_with fail
              refine (has_is HZ.out (by omega) (.inl rfl)).mono ?_
              rintro e w' ⟨rfl, rfl⟩
              go_wp2_with fail
              refine (has_is HZ.out (by omega) (.inl rfl)).mono ?_
              rintro e w' ⟨rfl, rfl⟩
              go_wp2_with fail
              refine (has_is HZ.out (by omega) (.inl rfl)).mono ?_
              rintro e w' ⟨rfl, rfl⟩
              go_wp2_with fail
              refine (has_is HZ.out (by omega) (.inl rfl)).mono ?_
              rintro e w' ⟨rfl, rfl⟩
              go_wp2
              go_ret
              exact ⟨rfl, (((Below.refl w.heap.size w).alloc (Nat.le_refl _) _).alloc (by simp) _).alloc (by simp; omega) _⟩

theorem free_row (ad : Addr) (n c : Nat) (F : Nat → ByteArray) (s : ByteArray) (w : World) (hn : n ≤ maxLen) (hs : s.size ≤ maxLen) (hF : ∀ i, i < n → (F i).size ≤ maxLen) (h : Strs w (some ad) n F) (hc : ∀ i, i < n → w.cell? (ad.add i) = some (.string (F i))) :
    Calls Try.prog 4 #[.slice (some ad) n c, .string s] w (Done w) := by
  by_cases hp : 0 < n
  · exact free_row_pos ad n c F s w hn hs hF h hc hp
  · exact free_row_zero ad n c F s w hn hs hF h hc hp
end Go.Proofs.Qxb6604693a
