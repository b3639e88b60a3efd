import Derived.Test.Qxb6604693aSplit
namespace Go.Proofs.Qxb6604693a
open Go.RowKit
set_option linter.unusedVariables false
set_option linter.unusedSimpArgs false

-- The list from behind; the list twice.
def rev (n : Nat) (F : Nat → ByteArray) : Nat → ByteArray := fun i => F (n - 1 - i)
def dbl (n : Nat) (F : Nat → ByteArray) : Nat → ByteArray := fun i => if i < n then F i else F (i - n)
theorem dbl_lt {n k : Nat} (F : Nat → ByteArray) (h : k < n) : dbl n F k = F k := by simp [dbl, h]
theorem dbl_ge (n k : Nat) (F : Nat → ByteArray) : dbl n F (n + k) = F k := by
  have h1 : ¬ n + k < n := by omega
  simp [dbl, h1]
theorem hasB_rev (n : Nat) (F : Nat → ByteArray) (s : ByteArray) : hasB n (rev n F) s = hasB n F s :=
  hasB_congr (fun i hi => ⟨n - 1 - i, by omega, rfl⟩) (fun j hj => ⟨n - 1 - j, by omega, by show F (n - 1 - (n - 1 - j)) = F j; rw [show n - 1 - (n - 1 - j) = j by omega]⟩)
theorem hasB_dbl (n : Nat) (F : Nat → ByteArray) (s : ByteArray) : hasB (n + n) (dbl n F) s = hasB n F s :=
  hasB_congr (fun i hi => by
    by_cases e : i < n
    · exact ⟨i, e, (dbl_lt F e).symm⟩
    · refine ⟨i - n, by omega, ?_⟩
      have h := dbl_ge n (i - n) F
      rw [show n + (i - n) = i by omega] at h
      exact h.symm) (fun j hj => ⟨j, by omega, dbl_lt F hj⟩)
theorem hasB_at {n k : Nat} (F : Nat → ByteArray) {x : ByteArray} (h : k < n) (hx : F k = x) : hasB n F x = true := (hasB_iff _ _ _).2 ⟨k, h, by rw [hx]; exact eqB_self x⟩

-- The first n strings of a block.
def Cells (w : World) (b n : Nat) (F : Nat → ByteArray) : Prop := ∀ i, i < n → w.cell? ⟨b, i, none⟩ = some (.string (F i))
theorem Cells.strs {w : World} {b n : Nat} {F : Nat → ByteArray} (h : Cells w b n F) : Strs w (some ⟨b, 0, none⟩) n F := .inr ⟨b, 0, rfl, fun i hi => by rw [Nat.zero_add]; exact h i hi⟩
theorem Cells.grown {w w' : World} {b n : Nat} {F : Nat → ByteArray} {row : Option Nat} (h : Cells w b n F) (hg : w.grownBy w' row) (hne : row ≠ some b) : Cells w' b n F := fun i hi => hg.cell (h i hi) (fun e => hne e.symm)

-- The list's copy and the list from behind.
structure K1 (w : World) (n : Nat) (F : Nat → ByteArray) (B g : Nat) (R : Nat → ByteArray) (wr : World) : Prop where
  cl : Cells wr B n F
  cr : Cells wr g n R
  bel : Below w.heap.size w wr
  lb : B < wr.heap.size
  lg : g < wr.heap.size
theorem K1.grown {w : World} {n : Nat} {F : Nat → ByteArray} {B g : Nat} {R : Nat → ByteArray} {wr w' : World} {row : Option Nat} (h : K1 w n F B g R wr) (hg : wr.grownBy w' row) (h1 : row ≠ some B) (h2 : row ≠ some g) (h3 : ∀ k, row = some k → w.heap.size ≤ k) : K1 w n F B g R w' :=
  ⟨h.cl.grown hg h1, h.cr.grown hg h2, h.bel.grown hg h.bel.size h3, Nat.lt_of_lt_of_le h.lb hg.size, Nat.lt_of_lt_of_le h.lg hg.size⟩
theorem K1.drewN {w : World} {n : Nat} {F : Nat → ByteArray} {B g : Nat} {R : Nat → ByteArray} {wr : World} (h : K1 w n F B g R wr) (q : Nat) : K1 w n F B g R (wr.drewN q) :=
  ⟨h.cl, h.cr, ⟨h.bel.os, h.bel.tape, h.bel.output, h.bel.size, h.bel.block⟩, h.lb, h.lg⟩

-- While the list is written from behind.
structure RW (w : World) (n : Nat) (F : Nat → ByteArray) (g k : Nat) (wr : World) : Prop where
  rl : wr.rowIs w.heap.size 9 n (strs F)
  rr : wr.rowIs g 9 n (strs fun i => if i < k then rev n F i else ByteArray.empty)
  bel : Below w.heap.size w wr
  ne : w.heap.size ≠ g
  hg : w.heap.size ≤ g
theorem rw_new {w w1 : World} {n : Nat} {F : Nat → ByteArray} (h : Cop w n F w1) : RW w n F w1.heap.size 0 (w1.alloc (.cells (madeCells #[.string ByteArray.empty] n) 9)) :=
  ⟨h.rl.alloc _, (World.rowIs_made _ _ _ _).congr (fun i hi => by simp), h.bel.alloc h.bel.size _, by have := h.rl.lt; omega, h.bel.size⟩
theorem RW.step {w : World} {n : Nat} {F : Nat → ByteArray} {g k : Nat} {wr : World} {x : ByteArray} (h : RW w n F g k wr) (hx : rev n F k = x) : RW w n F g (k + 1) (wr.setCell ⟨g, k, none⟩ (.string x)) :=
  ⟨h.rl.setOther h.ne _, (h.rr.set k (.string x)).congr (fun i hi => by
    subst hx
    by_cases e : i = k
    · subst e; simp
    · by_cases e2 : i < k
      · have : i < k + 1 := by omega
        simp [e, e2, this]
      · have : ¬ i < k + 1 := by omega
        simp [e, e2, this]), h.bel.grown (grown_setCell _ _ _) h.bel.size (fun k e => by cases e; exact h.hg), h.ne, h.hg⟩
theorem RW.k1 {w : World} {n : Nat} {F : Nat → ByteArray} {g : Nat} {wr : World} (h : RW w n F g n wr) : K1 w n F w.heap.size g (rev n F) wr :=
  ⟨fun i hi => strs_cell h.rl hi, fun i hi => by have := strs_cell h.rr hi; simpa [hi] using this, h.bel, h.rl.lt, h.rr.lt⟩

-- While a slice of the call's own is built by append, beside them.
structure DW (w : World) (n : Nat) (F : Nat → ByteArray) (B g : Nat) (R : Nat → ByteArray) (d m cap : Nat) (G : Nat → ByteArray) (wr : World) : Prop where
  k : K1 w n F B g R wr
  own : Own w.heap.size wr d m cap G
  n1 : d ≠ B
  n2 : d ≠ g
  hd : w.heap.size ≤ d
  ld : d < wr.heap.size
theorem dw_new {w : World} {n : Nat} {F : Nat → ByteArray} {B g : Nat} {R : Nat → ByteArray} {cap : Nat} {G : Nat → ByteArray} {w1 w2 : World} (h : K1 w n F B g R w1) (hown : w2.ownsRow w.heap.size 9 1 (.slice (some ⟨w1.heap.size, 0, none⟩) 0 cap) 0 []) (hg : w1.grownBy w2 none) : DW w n F B g R w1.heap.size 0 cap G w2 :=
  ⟨h.grown hg (by simp) (by simp) (fun k e => by cases e), hown, by have := h.lb; omega, by have := h.lg; omega, h.bel.size, (hown.lt _ rfl).2⟩
theorem DW.step {w : World} {n : Nat} {F : Nat → ByteArray} {B g : Nat} {R : Nat → ByteArray} {d m cap : Nat} {G : Nat → ByteArray} {wr w' : World} {o : Obj} {x : ByteArray} (h : DW w n F B g R d m cap G wr) (hx : G m = x)
    (ho : w'.ownsRow w.heap.size 9 1 (.slice (some ⟨d, 0, none⟩) (m + 1) cap) (m + 1) ((List.range m).map (strs G) ++ [.string x])) (hgr : (wr.alloc o).grownBy w' (some d)) : DW w n F B g R d (m + 1) cap G w' := by
  have g1 : wr.grownBy w' (some d) := grown_then (World.grownBy_alloc _ _ _) hgr
  exact ⟨h.k.grown g1 (by simpa using h.n1) (by simpa using h.n2) (fun k e => by cases e; exact h.hd), own_next hx ho, h.n1, h.n2, h.hd, Nat.lt_of_lt_of_le h.ld g1.size⟩
theorem DW.cells {w : World} {n : Nat} {F : Nat → ByteArray} {B g : Nat} {R : Nat → ByteArray} {d m cap : Nat} {G : Nat → ByteArray} {wr : World} (h : DW w n F B g R d m cap G wr) : Cells wr d m G :=
  fun i hi => by rw [World.ownsRow.cellAt h.own i (by omega)]; simp [hi]

-- And one more beside those: a slice in which s is not.
structure EW (w : World) (n : Nat) (F : Nat → ByteArray) (B g : Nat) (R : Nat → ByteArray) (d dm : Nat) (D : Nat → ByteArray) (s : ByteArray) (e m cap : Nat) (wr : World) : Prop where
  k : K1 w n F B g R wr
  cd : Cells wr d dm D
  own : ∃ H, Own w.heap.size wr e m cap H ∧ hasB m H s = false
  n1 : e ≠ B
  n2 : e ≠ g
  n3 : e ≠ d
  he : w.heap.size ≤ e
theorem ew_new {w : World} {n : Nat} {F : Nat → ByteArray} {B g : Nat} {R : Nat → ByteArray} {d m0 cap0 cap : Nat} {D : Nat → ByteArray} {s : ByteArray} {w1 w2 : World} (h : DW w n F B g R d m0 cap0 D w1) (hown : w2.ownsRow w.heap.size 9 1 (.slice (some ⟨w1.heap.size, 0, none⟩) 0 cap) 0 []) (hg : w1.grownBy w2 none) : EW w n F B g R d m0 D s w1.heap.size 0 cap w2 :=
  ⟨h.k.grown hg (by simp) (by simp) (fun k e => by cases e), h.cells.grown hg (by simp), ⟨fun _ => s, hown, rfl⟩, by have := h.k.lb; omega, by have := h.k.lg; omega, by have := h.ld; omega, h.k.bel.size⟩
theorem EW.drewN {w : World} {n : Nat} {F : Nat → ByteArray} {B g : Nat} {R : Nat → ByteArray} {d dm : Nat} {D : Nat → ByteArray} {s : ByteArray} {e m cap : Nat} {wr : World} (h : EW w n F B g R d dm D s e m cap wr) (q : Nat) : EW w n F B g R d dm D s e m cap (wr.drewN q) :=
  ⟨h.k.drewN q, h.cd, h.own, h.n1, h.n2, h.n3, h.he⟩
-- What is handed to append: the values that lie there.
def Held (w : World) (B e m cap : Nat) (s : ByteArray) (vs : List Value) : Prop := w.ownsRow B 9 1 (.slice (some ⟨e, 0, none⟩) m cap) m vs ∧ ∃ H, vs = (List.range m).map (strs H) ∧ hasB m H s = false
theorem EW.held {w : World} {n : Nat} {F : Nat → ByteArray} {B g : Nat} {R : Nat → ByteArray} {d dm : Nat} {D : Nat → ByteArray} {s : ByteArray} {e m cap : Nat} {wr : World} (h : EW w n F B g R d dm D s e m cap wr) : ∃ vs, Held wr w.heap.size e m cap s vs := by
  obtain ⟨H, h1, h2⟩ := h.own
  exact ⟨_, h1, H, rfl, h2⟩
theorem EW.step {w : World} {n : Nat} {F : Nat → ByteArray} {B g : Nat} {R : Nat → ByteArray} {d dm : Nat} {D : Nat → ByteArray} {s : ByteArray} {e m cap : Nat} {wr w' : World} {o : Obj} {x : ByteArray} {vs : List Value} (h : EW w n F B g R d dm D s e m cap wr) (hv : Held wr w.heap.size e m cap s vs) (hx : eqB x s = false)
    (ho : w'.ownsRow w.heap.size 9 1 (.slice (some ⟨e, 0, none⟩) (m + 1) cap) (m + 1) (vs ++ [.string x])) (hgr : (wr.alloc o).grownBy w' (some e)) : EW w n F B g R d dm D s e (m + 1) cap w' := by
  have g1 : wr.grownBy w' (some e) := grown_then (World.grownBy_alloc _ _ _) hgr
  obtain ⟨_, H, rfl, hH⟩ := hv
  have hmap : (List.range m).map (strs H) = (List.range m).map (strs fun j => if j < m then H j else x) := by
    apply List.map_congr_left
    intro j hj
    have : j < m := List.mem_range.1 hj
    simp [this]
  refine ⟨h.k.grown g1 (by simpa using h.n1) (by simpa using h.n2) (fun k e => by cases e; exact h.he), h.cd.grown g1 (by simpa using h.n3), ⟨fun j => if j < m then H j else x, own_next (by simp) (hmap ▸ ho), ?_⟩, h.n1, h.n2, h.n3, h.he⟩
  have h1 : hasB m (fun j => if j < m then H j else x) s = false := by
    rw [← hH]
    exact hasB_congr (fun i hi => ⟨i, hi, by simp [hi]⟩) (fun i hi => ⟨i, hi, by simp [hi]⟩)
  show (hasB m (fun j => if j < m then H j else x) s || eqB (if m < m then H m else x) s) = false
  rw [h1]
  simpa using hx
theorem EW.without {w : World} {n : Nat} {F : Nat → ByteArray} {B g : Nat} {R : Nat → ByteArray} {d dm : Nat} {D : Nat → ByteArray} {s : ByteArray} {e m cap : Nat} {wr : World} (h : EW w n F B g R d dm D s e m cap wr) : ∃ H, Strs wr (some ⟨e, 0, none⟩) m H ∧ hasB m H s = false := by
  obtain ⟨H, h1, h2⟩ := h.own
  exact ⟨H, h1.strs, h2⟩

set_option maxRecDepth 20000 in
set_option maxHeartbeats 4000000 in
theorem free_row_pos (ad : Addr) (n c : Nat) (F : Nat → ByteArray) (s : ByteArray) (w : World) (hn : n ≤ maxLen) (hs : s.size ≤ maxLen) (hF : ∀ i, i < n → (F i).size ≤ maxLen) (h : Strs w (some ad) n F) (hc : ∀ i, i < n → w.cell? (ad.add i) = some (.string (F i))) (hpos : 0 < n) :
    Calls Try.prog 4 #[.slice (some ad) n c, .string s] w (Done w) := by
  have HS := hideP h
  have HF := hideP hF
  have HC := hideP hc
  have B9 := hideP (bytes9 (some ad) n c F s w hn hs hF h)
  have hm0 := hn
  unfold maxLen at hn hs
  obtain ⟨i0, hi, hzz⟩ := Option.map_eq_some_iff.1 Try.info9
  simp only [Prod.mk.injEq] at hzz
  obtain ⟨hz0, hz1, hz2⟩ := hzz
  clear h hF hc
  go_enter Try.func4, Try.ntmps4
  go_wp2_with fail
  refine B9.out.mono ?_
  rintro e w' ⟨⟨b, rfl, hb⟩, hw⟩
  replace hw := hw.symm
  subst hw
  cases b with
  | false =>
    clear hb
    go_wp2
    go_ret
    exact done_here _
  | true =>
    obtain ⟨hn1, hs1, hF1⟩ := hb rfl
    have HF1 := hideP hF1
    clear hb hF1
    by_cases e1 : 65536 < n
    · go_wp2
      go_ret
      exact done_here _
    go_wp2
    go_loop [5, 6] (fun t i => ∃ (k : Nat) (T : Int), k ≤ n ∧ i = .int .i64 k ∧ t = .int .i64 T ∧ 0 ≤ T ∧ T ≤ 2097152) (fun _ i => n - (intOf i).toNat)
    case atStart => exact ⟨0, s.size + 16 * n, by omega, rfl, by go_num, by omega, by omega⟩
    case round =>
      obtain ⟨k, T, hk, rfl, rfl, hT0, hT1⟩ := hrel
      by_cases hlt : k < n
      · rcases HS.out with h0 | ⟨b, off, e, hc⟩
        · omega
        cases e
        have q0 := hc k hlt
        have hx0 := HF1.out k hlt
        obtain ⟨y, hy⟩ : ∃ y, F k = y := ⟨_, rfl⟩
        rw [hy] at q0 hx0
        clear hc hy
        by_cases e3 : 1048576 < T + y.size
        · go_wp2
          go_ret
          exact done_here _
        · go_wp2
          go_round
          case rel => exact ⟨k + 1, T + y.size, by omega, by go_num, rfl, by omega, by omega⟩
          case measure => simp [intOf]; omega
      · have hkn : n = k := by omega
        subst hkn
        have hmk := run_make_row' (P := Try.prog) 22 9 (.string ByteArray.empty) 16 Try.underlying22 Try.info9 rfl .i64 .i64 n (by omega) (by omega)
        obtain ⟨A, hA⟩ : ∃ A, hasB n F s = A := ⟨_, rfl⟩
        have HQ := hideP hA
        have HQR := hideP ((hasB_rev n F s).trans hA)
        have HQD := hideP ((hasB_dbl n F s).trans hA)
        clear hA
        have hh : n / 2 < n := by omega
        have hl : n - 1 < n := by omega
        obtain ⟨y0, hy0⟩ : ∃ y, F 0 = y := ⟨_, rfl⟩
        obtain ⟨y1, hy1⟩ : ∃ y, F (n / 2) = y := ⟨_, rfl⟩
        obtain ⟨y2, hy2⟩ : ∃ y, F (n - 1) = y := ⟨_, rfl⟩
        have HY0 := hideP (hasB_at F hpos hy0)
        have HY1 := hideP (hasB_at F hh hy1)
        have HY2 := hideP (hasB_at F hl hy2)
        obtain ⟨h2, hh2⟩ : ∃ h2, n / 2 = h2 := ⟨_, rfl⟩
        obtain ⟨l1, hl1⟩ : ∃ l1, n - 1 = l1 := ⟨_, rfl⟩
        rw [hh2] at hy1 hh
        rw [hl1] at hy2 hl
        have t1 : Int.tdiv (n : Int) 2 = (h2 : Int) := by rw [← hh2]; rfl
        have t2 : (n : Int) - 1 = (l1 : Int) := by omega
        have HI0 : Hid (∀ w1, Cop w n F w1 → w1.cell? ⟨w.heap.size, 0, none⟩ = some (.string y0) ∧ w1.cell? ⟨w.heap.size, h2, none⟩ = some (.string y1) ∧ w1.cell? ⟨w.heap.size, l1, none⟩ = some (.string y2)) := by
          intro w1 h
          rw [← hy0, ← hy1, ← hy2]
          exact ⟨strs_cell h.rl hpos, strs_cell h.rl hh, strs_cell h.rl hl⟩
        clear hy0 hy1 hy2 hh2 hl1
        go_wp2_with (refine wpList_copy_in rfl (.tmp 53) (.tmp 54) rfl w.heap.size n c ad (fun _ => .string ByteArray.empty) F rfl rfl (World.rowIs_made _ _ _ _) (fun i hi => alloc_cell _ (HC.out i hi)) ?_; intro w1 hr1 hg1; have HR1 := hideP (cop_of hr1 hg1); have q0 := HI0.out _ HR1.out; clear hr1 hg1; obtain ⟨q0, q1, q2⟩ := q0)
        refine (has_is HY0.out hn1 (row_strs HR1.out.rl (Nat.le_refl _))).mono ?_
        rintro e w' ⟨rfl, rfl⟩
        go_wp2_with fail
        refine (has_is HY1.out hn1 (row_strs HR1.out.rl (Nat.le_refl _))).mono ?_
        rintro e w' ⟨rfl, rfl⟩
        go_wp2_with fail
        refine (has_is HY2.out hn1 (row_strs HR1.out.rl (Nat.le_refl _))).mono ?_
        rintro e w' ⟨rfl, rfl⟩
        clear t1 t2 q0 q1 q2 HI0 HY0 HY1 HY2
        go_wp2
        obtain ⟨g, hg⟩ : ∃ g, w1.heap.size = g := ⟨_, rfl⟩
        have HI := hideP (rw_new HR1.out)
        rw [hg] at HI ⊢
        clear hg
        go_loopw [10] (fun i wr => ∃ k : Nat, k ≤ n ∧ i = .int .i64 k ∧ Hid (RW w n F g k wr)) (fun i _ => n - (intOf i).toNat)
        case atStart => exact ⟨0, by omega, rfl, HI⟩
        case round =>
          obtain ⟨k, hk, rfl, HK⟩ := hrel
          by_cases hlt : k < n
          · obtain ⟨j, hj⟩ : ∃ j, n = k + 1 + j := ⟨n - 1 - k, by omega⟩
            have hj1 : (n : Int) - 1 - (k : Int) = (j : Int) := by omega
            have hjn : j < n := by omega
            have q0 := strs_cell HK.out.rl hjn
            have q1 := strs_cell HK.out.rr hlt
            have q2 := HK.out.rr.frozen k
            have HX : Hid (rev n F k = F j) := by show F (n - 1 - k) = F j; rw [show n - 1 - k = j by omega]
            obtain ⟨y, hy⟩ : ∃ y, F j = y := ⟨_, rfl⟩
            rw [hy] at q0 HX
            clear hy hj
            go_wp2
            go_roundw
            case rel => exact ⟨k + 1, by omega, by go_num, hideP (HK.out.step HX.out)⟩
            case measure => simp [intOf]; omega
          · have hkn : n = k := by omega
            subst hkn
            have K := hideP HK.out.k1
            have hbase := K.out.bel.size
            go_wp2_with (at_make; refine wpList_make_own _ rfl _ _ 22 rfl w.heap.size 9 i0 (.string ByteArray.empty) 1 Try.underlying22 hi hz0 hz1 .i64 .i64 _ (2 * n) rfl rfl (by omega) (by rw [hz2]; omega) (by unfold maxLen; omega) hbase ?_; intro w2 hown2 hgrow2; have HD := hideP (dw_new (G := dbl n F) K.out hown2 hgrow2); clear hown2 hgrow2 hbase)
            obtain ⟨d, hd⟩ : ∃ d, wr.heap.size = d := ⟨_, rfl⟩
            rw [hd] at HD ⊢
            clear hd K HK
            go_loopw [11, 12] (fun o i wr => ∃ k : Nat, k ≤ n ∧ i = .int .i64 k ∧ o = .slice (some ⟨d, 0, none⟩) k (2 * n) ∧ Hid (DW w n F w.heap.size g (rev n F) d k (2 * n) (dbl n F) wr)) (fun _ i _ => n - (intOf i).toNat)
            case atStart => exact ⟨0, by omega, rfl, rfl, HD⟩
            case round =>
              obtain ⟨k, hk, rfl, rfl, HK⟩ := hrel
              by_cases hlt : k < n
              · have q0 := HK.out.k.cl k hlt
                have HX := hideP (dbl_lt F hlt)
                obtain ⟨y, hy⟩ : ∃ y, F k = y := ⟨_, rfl⟩
                rw [hy] at q0 HX
                clear hy
                go_wp2_with (at_builtin; refine wpList_append_fits _ rfl (.tmp 112) (.tmp 117) 22 rfl w.heap.size 9 i0 1 Try.underlying22 hi hz1 d k (2 * n) _ rfl (HK.out.own.alloc _) ⟨wr.heap.size, 0, none⟩ 1 1 [.string y] rfl rfl (cell_one_new _ _ _) (by simp [Value.oneCell']) (by omega) ?_; intro w4 hown4 hgrow4; have HN := hideP (HK.out.step HX.out hown4 hgrow4); clear hown4 hgrow4)
                go_roundw
                case rel => exact ⟨k + 1, by omega, by go_num, rfl, HN⟩
                case measure => simp [intOf]; omega
              · have hkn : n = k := by omega
                subst hkn
                go_wp2
                go_loopw [11, 13] (fun o i wr => ∃ k : Nat, k ≤ n ∧ i = .int .i64 k ∧ o = .slice (some ⟨d, 0, none⟩) (n + k) (2 * n) ∧ Hid (DW w n F w.heap.size g (rev n F) d (n + k) (2 * n) (dbl n F) wr)) (fun _ i _ => n - (intOf i).toNat)
                case atStart => exact ⟨0, by omega, rfl, rfl, HK⟩
                case round =>
                  obtain ⟨k, hk, rfl, rfl, HK⟩ := hrel
                  by_cases hlt : k < n
                  · have q0 := HK.out.k.cl k hlt
                    have HX := hideP (dbl_ge n k F)
                    obtain ⟨y, hy⟩ : ∃ y, F k = y := ⟨_, rfl⟩
                    rw [hy] at q0 HX
                    clear hy
                    go_wp2_with (at_builtin; refine wpList_append_fits _ rfl (.tmp 124) (.tmp 129) 22 rfl w.heap.size 9 i0 1 Try.underlying22 hi hz1 d (n + k) (2 * n) _ rfl (HK.out.own.alloc _) ⟨wr.heap.size, 0, none⟩ 1 1 [.string y] rfl rfl (cell_one_new _ _ _) (by simp [Value.oneCell']) (by omega) ?_; intro w4 hown4 hgrow4; have HN := hideP (HK.out.step HX.out hown4 hgrow4); clear hown4 hgrow4)
                    go_roundw
                    case rel => exact ⟨k + 1, by omega, by go_num, rfl, HN⟩
                    case measure => simp [intOf]; omega
                  · have hkn : n = k := by omega
                    subst hkn
                    have hbase := HK.out.k.bel.size
                    go_wp2_with (at_make; refine wpList_make_own _ rfl _ _ 22 rfl w.heap.size 9 i0 (.string ByteArray.empty) 1 Try.underlying22 hi hz0 hz1 .i64 .i64 _ n rfl rfl (by omega) (by rw [hz2]; omega) (by unfold maxLen; omega) hbase ?_; intro w2 hown2 hgrow2; have HE := hideP (ew_new (s := s) HK.out hown2 hgrow2); clear hown2 hgrow2 hbase)
                    obtain ⟨v, hv⟩ : ∃ v, wr.heap.size = v := ⟨_, rfl⟩
                    rw [hv] at HE ⊢
                    clear hv HK
                    go_loopw [14, 15] (fun o i wr => ∃ k q : Nat, k ≤ n ∧ q ≤ k ∧ i = .int .i64 k ∧ o = .slice (some ⟨v, 0, none⟩) q n ∧ Hid (EW w n F w.heap.size g (rev n F) d (n + n) (dbl n F) s v q n wr)) (fun _ i _ => n - (intOf i).toNat)
                    case atStart => exact ⟨0, 0, by omega, by omega, rfl, rfl, HE⟩
                    case round =>
                      obtain ⟨k, q, hk, hq, rfl, rfl, HK⟩ := hrel
                      by_cases hlt : k < n
                      · have q0 := HK.out.k.cl k hlt
                        have hx0 := HF1.out k hlt
                        obtain ⟨y, hy⟩ : ∃ y, F k = y := ⟨_, rfl⟩
                        rw [hy] at q0 hx0
                        clear hy
                        obtain ⟨E, hE⟩ : ∃ E, eqB y s = E := ⟨_, rfl⟩
                        have HEE := hideP hE
                        clear hE
                        go_wp2_with fail
                        refine (same_any y s _ hx0 hs1).mono ?_
                        rintro e w' ⟨rfl, z, rfl⟩
                        rw [HEE.out]
                        cases E with
                        | true =>
                          go_wp2
                          go_roundw
                          case rel => exact ⟨k + 1, q, by omega, by omega, by go_num, rfl, hideP (HK.out.drewN z)⟩
                          case measure => simp [intOf]; omega
                        | false =>
                          obtain ⟨vs, hvs⟩ := (HK.out.drewN z).held
                          have HV := hideP hvs
                          clear hvs
                          go_wp2_with (at_builtin; refine wpList_append_fits _ rfl (.tmp 145) (.tmp 150) 22 rfl w.heap.size 9 i0 1 Try.underlying22 hi hz1 v q n vs rfl (HV.out.1.alloc _) ⟨wr.heap.size, 0, none⟩ 1 1 [.string y] rfl rfl (cell_one_new _ _ _) (by simp [Value.oneCell']) (by omega) ?_; intro w4 hown4 hgrow4; have HN := hideP ((HK.out.drewN z).step HV.out HEE.out hown4 hgrow4); clear hown4 hgrow4)
                          go_roundw
                          case rel => exact ⟨k + 1, q + 1, by omega, by omega, by go_num, rfl, HN⟩
                          case measure => simp [intOf]; omega
                      · have hkn : n = k := by omega
                        subst hkn
                        obtain ⟨H, hH, hHs⟩ := HK.out.without
                        have HH := hideP hH
                        have HHs := hideP hHs
                        clear hH hHs
                        go_wp2_with fail
                        refine (has_is HQ.out hn1 HK.out.k.cl.strs).mono ?_
                        rintro e w' ⟨rfl, rfl⟩
                        go_wp2_with fail
                        refine (has_is HQR.out hn1 HK.out.k.cr.strs).mono ?_
                        rintro e w' ⟨rfl, rfl⟩
                        go_wp2_with fail
                        refine (has_is HQD.out (by omega) HK.out.cd.strs).mono ?_
                        rintro e w' ⟨rfl, rfl⟩
                        go_wp2_with fail
                        refine (has_is HHs.out (by omega) HH.out).mono ?_
                        rintro e w' ⟨rfl, rfl⟩
                        go_wp2
                        go_ret
                        exact ⟨rfl, HK.out.k.bel⟩
end Go.Proofs.Qxb6604693a
