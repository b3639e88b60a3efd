import Derived.Test.Qxb6603801aInv
import Derived.RegionTactic
import Derived.ChangeAlike
import Derived.BigRegion
import Derived.Deep.QuietTactic
import Derived.BigQuiet
namespace Go.Proofs.Qxb6603801a
open Go.RowKit
set_option linter.unusedVariables false
set_option linter.unusedSimpArgs false

-- The outer loop's head.
def Outer (X : Nat → Prop) (w0 : World) (bv bw n : Nat) (V0 W0 : Nat → Int) (r0 : Int) (r s lo hi : Value) (wr : World) : Prop :=
  ∃ (V W : Nat → Int) (l h : Nat), lo = .int .i64 l ∧ hi = .int .i64 h ∧ r = .int .i64 (r0 - sm l W) ∧ s = .int .i64 (wrap64 (sm l (fun j => W j * V j))) ∧ Pass X w0 bv bw n V0 W0 r0 l h V W wr
-- The pass's head.
def Inner (X : Nat → Prop) (w0 : World) (bv bw n : Nat) (V0 W0 : Nat → Int) (l h : Nat) (V1 W1 : Nat → Int) (t : Int) (bb ii aa : Value) (wr : World) : Prop :=
  ∃ (V W : Nat → Int) (b i a : Nat), bb = .int .i64 b ∧ ii = .int .i64 i ∧ aa = .int .i64 a ∧ Part X w0 bv bw n V0 W0 l h V1 W1 t b i a V W wr

-- What the call hands back and leaves.
def SumRes (X : Nat → Prop) (w0 : World) (bv bw n : Nat) (V0 W0 : Nat → Int) (r0 : Int) (e : Ending) (w' : World) : Prop :=
  ∃ (t : Int) (b a : Nat) (V W : Nat → Int), e = .returned (.int .i64 (wrap64 (Fs n V0 W0 r0 t))) ∧
      ltS n V0 W0 t < r0 ∧ r0 ≤ leS n V0 W0 t ∧ Parted n b a V t ∧ Eqv n V0 W0 V W ∧ w'.rowIs bv 3 n (ints V) ∧ w'.rowIs bw 3 n (ints W) ∧ Kept X w0 w'

-- The exchange of two places in both rows, as the text stores it.
theorem swap_world {X : Nat → Prop} {w0 : World} {bv bw n : Nat} {V W : Nat → Int} {wr : World} (hX1 : X bv) (hX2 : X bw) (hne : bv ≠ bw) (rv : wr.rowIs bv 3 n (ints V)) (rw_ : wr.rowIs bw 3 n (ints W)) (hk : Kept X w0 wr) (x y : Nat) :
    ((((wr.setCell ⟨bv, x, none⟩ (.int .i64 (V y))).setCell ⟨bv, y, none⟩ (.int .i64 (V x))).setCell ⟨bw, x, none⟩ (.int .i64 (W y))).setCell ⟨bw, y, none⟩ (.int .i64 (W x))).drew.rowIs bv 3 n (ints (sw x y V)) ∧
    ((((wr.setCell ⟨bv, x, none⟩ (.int .i64 (V y))).setCell ⟨bv, y, none⟩ (.int .i64 (V x))).setCell ⟨bw, x, none⟩ (.int .i64 (W y))).setCell ⟨bw, y, none⟩ (.int .i64 (W x))).drew.rowIs bw 3 n (ints (sw x y W)) ∧
    Kept X w0 ((((wr.setCell ⟨bv, x, none⟩ (.int .i64 (V y))).setCell ⟨bv, y, none⟩ (.int .i64 (V x))).setCell ⟨bw, x, none⟩ (.int .i64 (W y))).setCell ⟨bw, y, none⟩ (.int .i64 (W x))).drew := by
  refine ⟨?_, ?_, ?_⟩
  · refine World.rowIs.drew ((((rv.set x _).set y _).setOther (by exact hne) _).setOther (by exact hne) _ |>.congr fun j hj => ?_)
    simp only [ints, sw]
    split
    · rfl
    · split <;> rfl
  · refine World.rowIs.drew (((((rw_.setOther (by exact hne.symm) _).setOther (by exact hne.symm) _).set x _).set y _).congr fun j hj => ?_)
    simp only [ints, sw]
    split
    · rfl
    · split <;> rfl
  · exact (((((hk.setCell (p := ⟨bv, x, none⟩) hX1 _).setCell (p := ⟨bv, y, none⟩) hX1 _).setCell (p := ⟨bw, x, none⟩) hX2 _).setCell (p := ⟨bw, y, none⟩) hX2 _)).grown (grown_drew _ none) (by simp)

set_option maxRecDepth 20000 in
set_option maxHeartbeats 2000000 in
theorem sum_any (X : Nat → Prop) (w0 : World) (bv bw n : Nat) (V0 W0 : Nat → Int) (r0 : Int) (w : World) (hX1 : X bv) (hX2 : X bw) (hne : bv ≠ bw) (hn : n ≤ 4096) (hn0 : 0 < n) (rv : w.rowIs bv 3 n (ints V0)) (rw_ : w.rowIs bw 3 n (ints W0))
    (nn : ∀ j, j < n → 0 ≤ W0 j) (htot : sm n W0 ≤ 9223372036854775807) (hr1 : 1 ≤ r0) (hr2 : r0 ≤ sm n W0) (hk : Kept X w0 w) :
    Calls Try.prog 20 #[.slice (some ⟨bv, 0, none⟩) n n, .slice (some ⟨bw, 0, none⟩) n n, .int .i64 r0] w fun e w' => SumRes X w0 bv bw n V0 W0 r0 e w' := by
  have P0 : Pass X w0 bv bw n V0 W0 r0 0 n V0 W0 w := ⟨hn0, Nat.le_refl _, rv, rw_, Eqv.refl _ _ _, nn, by omega, by omega, by simp [sm]; exact hr1, hr2, hk⟩
  have HT := hideP htot
  have HP := hideP P0
  have HX := hideP (And.intro hX1 hX2)
  clear P0 rv rw_ nn hr2 hk htot hX1 hX2
  go_enter Try.func20, Try.ntmps20
  go_wp2
  go_loopw [2, 7, 8, 9] (fun r s lo hi wr => Outer X w0 bv bw n V0 W0 r0 r s lo hi wr) (fun _ _ lo hi _ => (intOf hi).toNat - (intOf lo).toNat)
  case atStart => exact ⟨V0, W0, 0, n, rfl, rfl, by simp [sm], by simp [sm, wrap64], HP.out⟩
  case round =>
    unfold Outer at hrel
    obtain ⟨V1, W1, l, h, rfl, rfl, rfl, rfl, P⟩ := hrel
    have lh := P.lh
    have hh := P.hn
    obtain ⟨m, hm⟩ : ∃ m, l + (h - l) / 2 = m := ⟨_, rfl⟩
    have m1 : l ≤ m := by omega
    have m2 : m < h := by omega
    have PS := hideP (Part.start P m1 m2)
    have q0 := ints_cell P.rv (i := l + (h - l) / 2) (by omega)
    rw [hm] at q0
    obtain ⟨t, ht⟩ : ∃ t, V1 m = t := ⟨_, rfl⟩
    rw [ht] at q0 PS
    obtain ⟨R, hR⟩ : ∃ R, r0 - sm l W1 = R := ⟨_, rfl⟩
    obtain ⟨s, hs⟩ : ∃ s, wrap64 (sm l (fun j => W1 j * V1 j)) = s := ⟨_, rfl⟩
    rw [hR, hs]
    have q1 : wr.cell? ⟨bv, l + (h - l) / 2, none⟩ = some (.int .i64 t) := by rw [hm]; exact q0
    have HPP := hideP P
    have HR := hideP hR
    have HS := hideP hs
    clear P q0 hm ht hR hs
    go_wp2
    clear q1
    go_loopw [11, 12, 13] (fun bb ii aa wr => Inner X w0 bv bw n V0 W0 l h V1 W1 t bb ii aa wr) (fun _ ii aa _ => (intOf aa).toNat - (intOf ii).toNat)
    case atStart => exact ⟨V1, W1, l, l, h, rfl, rfl, rfl, PS.out⟩
    case round =>
      unfold Inner at hrel
      obtain ⟨V, W, b, i, a, rfl, rfl, rfl, P⟩ := hrel
      have o1 := P.o1
      have o2 := P.o2
      have o3 := P.o3
      have o4 := P.o4
      by_cases hia : i < a
      · have q1 := ints_cell P.rv (i := i) (by omega)
        have q2 := ints_cell P.rv (i := b) (by omega)
        have q3 := ints_cell P.rw (i := i) (by omega)
        have q4 := ints_cell P.rw (i := b) (by omega)
        have f1 := P.rv.frozen i
        have f2 := P.rv.frozen b
        have f3 := P.rw.frozen i
        have f4 := P.rw.frozen b
        by_cases hlt : V i < t
        · obtain ⟨z1, z2, z3⟩ := swap_world HX.out.1 HX.out.2 hne P.rv P.rw P.kept i b
          have N := P.less hia hlt z1 z2 z3
          obtain ⟨x1, hx1⟩ : ∃ x, V i = x := ⟨_, rfl⟩
          obtain ⟨x2, hx2⟩ : ∃ x, V b = x := ⟨_, rfl⟩
          obtain ⟨x3, hx3⟩ : ∃ x, W i = x := ⟨_, rfl⟩
          obtain ⟨x4, hx4⟩ : ∃ x, W b = x := ⟨_, rfl⟩
          rw [hx1] at q1 hlt
          rw [hx2] at q2
          rw [hx3] at q3
          rw [hx4] at q4
          rw [hx1, hx2, hx3, hx4] at N
          have HN := hideP N
          have HE : Hid (i = b → x1 = x2 ∧ x3 = x4) := by rintro rfl; exact ⟨by rw [← hx1, ← hx2], by rw [← hx3, ← hx4]⟩
          clear N z1 z2 z3 P hx1 hx2 hx3 hx4 HPP HR HS PS HT HP HX
          by_cases hbi : b < i
          · go_wp2
            go_region
            go_wp2
            go_roundw
            case rel => exact ⟨_, _, b + 1, i + 1, a, by go_num, by go_num, rfl, HN.out⟩
            case measure => simp [intOf]; omega
          · have hbi2 : i = b := by omega
            subst hbi2
            obtain ⟨rfl, rfl⟩ := HE.out rfl
            go_wp2
            go_region
            go_wp2
            go_roundw
            case rel => exact ⟨_, _, i + 1, i + 1, a, by go_num, by go_num, rfl, HN.out⟩
            case measure => simp [intOf]; omega
        · by_cases hgt : t < V i
          · clear q2 q4 f2 f4
            have q2 := ints_cell P.rv (i := a - 1) (by omega)
            have q4 := ints_cell P.rw (i := a - 1) (by omega)
            have f2 := P.rv.frozen (a - 1)
            have f4 := P.rw.frozen (a - 1)
            obtain ⟨z1, z2, z3⟩ := swap_world HX.out.1 HX.out.2 hne P.rv P.rw P.kept i (a - 1)
            have N := P.more hia hgt z1 z2 z3
            obtain ⟨x1, hx1⟩ : ∃ x, V i = x := ⟨_, rfl⟩
            obtain ⟨x2, hx2⟩ : ∃ x, V (a - 1) = x := ⟨_, rfl⟩
            obtain ⟨x3, hx3⟩ : ∃ x, W i = x := ⟨_, rfl⟩
            obtain ⟨x4, hx4⟩ : ∃ x, W (a - 1) = x := ⟨_, rfl⟩
            rw [hx1] at q1 hlt hgt
            rw [hx2] at q2
            rw [hx3] at q3
            rw [hx4] at q4
            rw [hx1, hx2, hx3, hx4] at N
            have HE : Hid (i = a - 1 → x1 = x2 ∧ x3 = x4) := by intro e; rw [← hx1, ← hx2, ← hx3, ← hx4, ← e]; exact ⟨rfl, rfl⟩
            obtain ⟨c, hc⟩ : ∃ c, a = c + 1 := ⟨a - 1, by omega⟩
            subst hc
            rw [Nat.add_sub_cancel] at q2 q4 f2 f4 N HE
            have HN := hideP N
            clear N z1 z2 z3 P hx1 hx2 hx3 hx4 HPP HR HS PS HT HP HX
            by_cases hbi : i < c
            · go_wp2
              go_region
              go_wp2
              go_roundw
              case rel => exact ⟨_, _, b, i, c, rfl, rfl, by go_num, HN.out⟩
              case measure => simp [intOf]; omega
            · have hbi2 : i = c := by omega
              subst hbi2
              obtain ⟨rfl, rfl⟩ := HE.out rfl
              go_wp2
              go_region
              go_wp2
              go_roundw
              case rel => exact ⟨_, _, b, i, i, rfl, rfl, by go_num, HN.out⟩
              case measure => simp [intOf]
          · have N := P.same hia (by omega)
            obtain ⟨x1, hx1⟩ : ∃ x, V i = x := ⟨_, rfl⟩
            rw [hx1] at q1 hlt hgt
            have HN := hideP N
            clear N P hx1 HPP HR HS PS HT HP HX q2 q3 q4 f1 f2 f3 f4
            go_wp2
            go_roundw
            case rel => exact ⟨_, _, b, i + 1, a, rfl, by go_num, rfl, HN.out⟩
            case measure => simp [intOf]; omega
      · have hia2 : i = a := by omega
        subst hia2
        have hmid := P.mid
        have hbw : ∀ j, j < n → 0 ≤ W j := P.nn
        have htot : sm n W ≤ 9223372036854775807 := by rw [P.eqv.tot]; exact HT.out
        have hnn := P.hn
        have HP2 := hideP P
        have HBW := hideP hbw
        have HTT := hideP htot
        clear P hbw htot
        go_wp2
        go_loopw [14, 15, 16] (fun nn pp jj wr' => ∃ j m : Nat, l ≤ j ∧ j ≤ b ∧ jj = .int .i64 j ∧ nn = .int .i64 (sm j W - sm l W) ∧ pp = .int .i64 (wrap64 (sm j (fun j => W j * V j) - sm l (fun j => W j * V j))) ∧ wr' = wr.drewN m) (fun _ _ jj _ => b - (intOf jj).toNat)
        case atStart => exact ⟨l, 0, by omega, by omega, rfl, by simp, by simp [wrap64], rfl⟩
        case round =>
          obtain ⟨j, m', hj1, hj2, rfl, rfl, rfl, rfl⟩ := hrel
          by_cases hjb : j < b
          · have q1 := ints_cell HP2.out.rv (i := j) (by omega)
            have q2 := ints_cell HP2.out.rw (i := j) (by omega)
            have x0 := HBW.out j (by omega)
            have u1 := sm_up (F := W) (show l ≤ j by omega) (fun k hk => HBW.out k (by omega))
            have u2 := sm_up (F := W) (show j + 1 ≤ n by omega) HBW.out
            have u3 := sm_nonneg (n := l) (F := W) (fun k hk => HBW.out k (by omega))
            have u4 := HTT.out
            rw [sm_succ] at u2
            have e1 : sm (j + 1) W - sm l W = (sm j W - sm l W) + W j := by rw [sm_succ]; omega
            have e2 : wrap64 (sm (j + 1) (fun j => W j * V j) - sm l (fun j => W j * V j)) = wrap64 (wrap64 (sm j (fun j => W j * V j) - sm l (fun j => W j * V j)) + wrap64 (W j * V j)) := by rw [w_add, sm_succ]; congr 1; omega
            have E1 := hideP e1
            have E2 := hideP e2
            clear e1 e2
            obtain ⟨x, hx⟩ : ∃ x, W j = x := ⟨_, rfl⟩
            obtain ⟨y, hy⟩ : ∃ y, V j = y := ⟨_, rfl⟩
            obtain ⟨N, hN⟩ : ∃ N, sm j W - sm l W = N := ⟨_, rfl⟩
            obtain ⟨pt, hpt⟩ : ∃ p, wrap64 (sm j (fun j => W j * V j) - sm l (fun j => W j * V j)) = p := ⟨_, rfl⟩
            rw [hx] at q2 x0 u2 E1 E2
            rw [hy] at q1 E2
            rw [hN] at E1
            rw [hpt] at E2
            rw [hN, hpt]
            have N0 : 0 ≤ N := by omega
            have N1 : N + x ≤ 9223372036854775807 := by omega
            have i0 : (0 : Int) ≤ (j : Int) := by omega
            have i1 : (j : Int) < (n : Int) := by omega
            clear u1 u2 u3 u4 hx hy hN hpt HPP HR HS PS HT HP HX HP2 HBW HTT
            go_wp2
            go_quiet (fail)
            go_wp2
            go_roundw
            case rel => exact ⟨j + 1, _, by omega, by omega, by go_num, by rw [E1.out], by rw [E2.out], rfl⟩
            case measure => simp [intOf]; omega
          · have hjb2 : j = b := by omega
            subst hjb2
            have PA := HP2.out.alike m'
            have u1 := sm_up (F := W) (show l ≤ j by omega) (fun k hk => HBW.out k (by omega))
            have u2 := sm_up (F := W) (show j ≤ i by omega) (fun k hk => HBW.out k (by omega))
            have u3 := sm_up (F := W) (show i ≤ n by omega) HBW.out
            have u4 := HTT.out
            have u5 := sm_nonneg (n := l) (F := W) (fun k hk => HBW.out k (by omega))
            have hW := HP2.out.smW
            have hXX := HP2.out.smX
            have r1 := HPP.out.r1
            have r2 := HPP.out.r2
            have hsh := HP2.out.sh
            have u6 := sm_up (F := W) (show h ≤ n by omega) HBW.out
            have hR := HR.out
            by_cases hlow : R ≤ sm j W - sm l W
            · have N := hideP (PA.goLow (r0 := r0) r1 (by omega))
              have E1 : Hid (R = r0 - sm l W) := by show _ = _; omega
              have E2 : Hid (s = wrap64 (sm l (fun j => W j * V j))) := by show _ = _; rw [hXX]; exact HS.out.symm
              obtain ⟨N1, hN1⟩ : ∃ N, sm j W - sm l W = N := ⟨_, rfl⟩
              rw [hN1] at hlow ⊢
              clear PA u1 u2 u3 u4 u5 u6 hW hXX r1 r2 hsh hR hN1 HPP HR HS PS HT HP HX HP2 HBW HTT
              go_wp2
              go_roundw
              case rel => exact ⟨V, W, l, j, rfl, rfl, by rw [E1.out], by rw [E2.out], N.out⟩
              case measure => simp [intOf]; omega
            · have hp := PA.parted
              have E0 : Hid (wrap64 (s + wrap64 (sm j (fun j => W j * V j) - sm l (fun j => W j * V j))) = wrap64 (sm j (fun j => W j * V j))) := by
                show _ = _
                rw [← HS.out, ← hXX, w_add]
                congr 1
                omega
              have E1 : Hid (R - (sm j W - sm l W) = r0 - sm j W) := by show _ = _; omega
              have FIN : Hid (r0 - sm j W ≤ sm i W - sm j W → wrap64 (wrap64 (sm j (fun j => W j * V j)) + wrap64 ((r0 - sm j W) * t)) = wrap64 (Fs n V0 W0 r0 t) ∧ ltS n V0 W0 t < r0 ∧ r0 ≤ leS n V0 W0 t) := by
                intro hle
                have a1 := HP2.out.eqv.lt t
                have a2 := HP2.out.eqv.le t
                have a3 := HP2.out.eqv.su t
                rw [hp.lt] at a1
                rw [hp.le] at a2
                rw [hp.su] at a3
                refine ⟨?_, by omega, by omega⟩
                unfold Fs
                rw [w_add, ← a1, ← a3]
              have UP : Hid (¬ r0 - sm j W ≤ sm i W - sm j W → wrap64 (wrap64 (sm j (fun j => W j * V j)) + wrap64 ((sm i W - sm j W) * t)) = wrap64 (sm i (fun j => W j * V j)) ∧ (r0 - sm j W) - (sm i W - sm j W) = r0 - sm i W ∧ Pass X w0 bv bw n V0 W0 r0 i h V W (wr.drewN m')) := by
                intro hle
                refine ⟨?_, by omega, PA.goHigh r2 (by omega)⟩
                rw [w_add, HP2.out.midX]
              have HPA := hideP PA
              obtain ⟨N1, hN1⟩ : ∃ N, sm j W - sm l W = N := ⟨_, rfl⟩
              have HN1 := hideP hN1
              have N0 : 0 ≤ N1 := by omega
              have R0 : N1 < R := by omega
              have R1 : R ≤ 9223372036854775807 := by omega
              rw [hN1]
              obtain ⟨pt, hpt⟩ : ∃ p, wrap64 (sm j (fun j => W j * V j) - sm l (fun j => W j * V j)) = p := ⟨_, rfl⟩
              rw [hpt] at E0 ⊢
              rw [hN1] at E1
              clear PA u1 u4 u5 u6 hW hXX r1 r2 hsh hR hN1 hpt HPP HR HS PS HT HP HX HP2 hlow
              go_wp2
              rw [E0.out, E1.out]
              go_loop [14, 152] (fun nn kk => ∃ k : Nat, k ≤ i - j ∧ kk = .int .i64 k ∧ nn = .int .i64 (sm (j + k) W - sm j W)) (fun _ kk => (i - j) - (intOf kk).toNat)
              case atStart => exact ⟨0, by omega, rfl, by simp⟩
              case round =>
                obtain ⟨k, hk, rfl, rfl⟩ := hrel
                by_cases hki : k < i - j
                · have q2 := ints_cell HPA.out.rw (i := j + k) (by omega)
                  have x0 := HBW.out (j + k) (by omega)
                  have v1 := sm_up (F := W) (show j ≤ j + k by omega) (fun k hk => HBW.out k (by omega))
                  have v2 := sm_up (F := W) (show j + k + 1 ≤ n by omega) HBW.out
                  have v3 := sm_nonneg (n := j) (F := W) (fun k hk => HBW.out k (by omega))
                  have v4 := HTT.out
                  rw [sm_succ] at v2
                  have E5 : Hid (sm (j + (k + 1)) W - sm j W = (sm (j + k) W - sm j W) + W (j + k)) := by show _ = _; rw [← Nat.add_assoc, sm_succ]; omega
                  obtain ⟨x, hx⟩ : ∃ x, W (j + k) = x := ⟨_, rfl⟩
                  obtain ⟨N, hN⟩ : ∃ N, sm (j + k) W - sm j W = N := ⟨_, rfl⟩
                  rw [hx] at q2 x0 v2 E5
                  rw [hN] at E5 ⊢
                  have M0 : 0 ≤ N := by omega
                  have M1 : N + x ≤ 9223372036854775807 := by omega
                  clear v1 v2 v3 v4 hx hN
                  go_wp2
                  go_round
                  case rel => exact ⟨k + 1, by omega, by go_num, by rw [E5.out]⟩
                  case measure => simp [intOf]; omega
                · have hki2 : k = i - j := by omega
                  subst hki2
                  rw [show j + (i - j) = i from by omega]
                  by_cases hfin : r0 - sm j W ≤ sm i W - sm j W
                  · obtain ⟨F1, F2, F3⟩ := FIN.out hfin
                    have HF1 := hideP F1
                    have HF2 := hideP (And.intro F2 F3)
                    obtain ⟨R2, hR2⟩ : ∃ R, r0 - sm j W = R := ⟨_, rfl⟩
                    obtain ⟨N2, hN2⟩ : ∃ N, sm i W - sm j W = N := ⟨_, rfl⟩
                    obtain ⟨S2, hS2⟩ : ∃ S, wrap64 (sm j (fun j => W j * V j)) = S := ⟨_, rfl⟩
                    rw [hR2, hN2] at hfin
                    rw [hR2, hS2] at HF1
                    rw [hR2, hN2, hS2]
                    clear F1 F2 F3 hR2 hN2 hS2
                    go_wp2
                    go_ret
                    exact ⟨t, j, i, V, W, by rw [← HF1.out]; rfl, HF2.out.1, HF2.out.2, HPA.out.parted, HPA.out.eqv, HPA.out.rv, HPA.out.rw, HPA.out.kept⟩
                  · obtain ⟨F1, F2, F3⟩ := UP.out (by omega)
                    have HF1 := hideP F1
                    have HF2 := hideP F2
                    have HF3 := hideP F3
                    have k1 : 0 ≤ sm i W - sm j W := by omega
                    have k2 : r0 - sm j W ≤ 9223372036854775807 := by have := E1.out; omega
                    obtain ⟨R2, hR2⟩ : ∃ R, r0 - sm j W = R := ⟨_, rfl⟩
                    obtain ⟨N2, hN2⟩ : ∃ N, sm i W - sm j W = N := ⟨_, rfl⟩
                    obtain ⟨S2, hS2⟩ : ∃ S, wrap64 (sm j (fun j => W j * V j)) = S := ⟨_, rfl⟩
                    rw [hR2] at k2
                    rw [hN2] at k1
                    rw [hR2, hN2] at hfin
                    rw [hN2, hS2] at HF1
                    rw [hR2, hN2] at HF2
                    rw [hR2, hN2, hS2]
                    clear F1 F2 F3 hR2 hN2 hS2
                    go_wp2
                    go_roundw
                    case rel => exact ⟨V, W, i, h, rfl, rfl, by rw [HF2.out], by rw [← HF1.out], HF3.out⟩
                    case measure => simp [intOf]; omega
end Go.Proofs.Qxb6603801a
