import Derived.Test.Qxb6003438aVeLaw
namespace Go.Proofs.Qxb6003438a
open Go.RowKit
set_option linter.unusedVariables false
set_option linter.unusedSimpArgs false

-- What the window holds once k bytes of the text ns have been laid from place a on.
def fin (a k : Nat) (ns : List Int) (f : Nat → Int) : Nat → Int := fun j => if a ≤ j ∧ j < a + k then ns.getD (j - a) 0 else f j

theorem hide {p : Prop} (h : p) : Hid p := h

-- What the copying loop keeps.
def Tail (w : World) (g B a n : Nat) (ns : List Int) (f : Nat → Int) (i : Value) (wr : World) : Prop :=
  ∃ k : Nat, k ≤ n ∧ i = .int .i64 k ∧ wr.rowIs B 22 30 (fun j => .int .u8 (fin a k ns f j)) ∧ (∀ j, j < n → wr.cell? ⟨g, j, none⟩ = some (.int .u8 (ns.getD j 0))) ∧ Below w.heap.size w wr

theorem tail_start {w w4 : World} {g a n cap : Nat} {ns : List Int} {f : Nat → Int} {vs : Array Value} (hn : ns.length = n) (hvs : vs.size = 30) (hf : ∀ i, i < 30 → vs[i]? = some (.int .u8 (f i)))
    (hown : w4.ownsRow w.heap.size 5 1 (.slice (some ⟨g, 0, none⟩) n cap) n (ns.map (Value.int .u8))) (hb : Below w.heap.size w w4) :
    Tail w g w4.heap.size a n ns f (.int .i64 0) (w4.alloc (.cells vs 22)) := by
  refine ⟨0, by omega, rfl, ?_, ?_, hb.alloc hb.size _⟩
  · have h := World.rowIs_alloc w4 vs 22 (fun j => .int .u8 (f j)) (fun i hi => hf i (by omega))
    rw [hvs] at h
    refine h.congr fun j hj => ?_
    simp [fin]
    omega
  · intro j hj
    have hg := hown.lt g rfl
    rw [World.cell?_alloc_past _ _ _ (by simpa using hg.2), hown.cellAt j (by omega)]
    simp [List.getD, hn, hj]

theorem tail_step {w wr : World} {g B a k n : Nat} {ns : List Int} {f : Nat → Int} (hk : k < n) (hgB : g ≠ B) (hB : w.heap.size ≤ B)
    (hrow : wr.rowIs B 22 30 (fun j => .int .u8 (fin a k ns f j))) (hc : ∀ j, j < n → wr.cell? ⟨g, j, none⟩ = some (.int .u8 (ns.getD j 0))) (hb : Below w.heap.size w wr) :
    Tail w g B a n ns f (.int .i64 ((k : Int) + 1)) (wr.setCell ⟨B, a + k, none⟩ (.int .u8 (ns.getD k 0))) := by
  refine ⟨k + 1, by omega, by go_num, ?_, ?_, hb.setCell hB _⟩
  · refine (hrow.set (a + k) _).congr fun j hj => ?_
    by_cases e : j = a + k
    · subst e
      have : a + k - a = k := by omega
      simp [fin, this]
    · simp only [if_neg e, fin]
      by_cases h2 : a ≤ j ∧ j < a + k
      · rw [if_pos h2, if_pos (by omega)]
      · rw [if_neg h2, if_neg (by omega)]
  · intro j hj
    rw [World.cell?_setCell_other _ _ _ _ (by intro e; exact hgB (congrArg Addr.block e).symm)]
    exact hc j hj

theorem own_norm {w w2 : World} {x y : Obj} {B n c : Nat} {xs : List Value} (h : w2.ownsRow B 5 1 (.slice (some ⟨((w.alloc x).alloc y).heap.size, 0, none⟩) n c) n xs) :
    w2.ownsRow B 5 1 (.slice (some ⟨w.heap.size + 1 + 1, 0, none⟩) n c) n xs := by simpa using h

theorem news_new (w : World) (cs : Array Value) (e : TypeId) : ∀ j u, cs.toList[j]? = some u → (w.alloc (.cells cs e)).cell? ((⟨w.heap.size, 0, none⟩ : Addr).add j) = some u := by
  intro j u hu
  rw [Addr.add_lit, Nat.zero_add, cell_of_row _ _ j cs e (0, 0) (heap_alloc_new w _)]
  simpa using hu

-- The window's block, and all that is below it, behind the appends.
theorem kept1 {w w2 : World} {x y : Obj} (hg : ((w.alloc x).alloc y).grownBy w2 none) : w2.heap[w.heap.size]? = some x ∧ Below w.heap.size w w2 ∧ w.heap.size + 2 ≤ w2.heap.size := by
  refine ⟨?_, ?_, ?_⟩
  · rw [hg.block _ (by simp; omega) (by simp), Below.heap_alloc _ _ _ (by simp), heap_alloc_new]
  · exact (((Below.refl _ _).alloc (Nat.le_refl _) _).alloc (by simp) _).grown hg (by simp; omega) (by simp)
  · have := hg.size; simp at this; omega

theorem kept2 {w w2 w3 : World} {x : Obj} (h : w2.heap[w.heap.size]? = some x ∧ Below w.heap.size w w2 ∧ w.heap.size + 2 ≤ w2.heap.size) (hg : w2.grownBy w3 (some (w.heap.size + 1 + 1))) :
    w3.heap[w.heap.size]? = some x ∧ Below w.heap.size w w3 ∧ w.heap.size + 2 ≤ w3.heap.size := by
  obtain ⟨h1, h2, h3⟩ := h
  exact ⟨by rw [hg.block _ (by omega) (by simp; omega)]; exact h1, h2.grown hg h2.size (by simp; omega), by have := hg.size; omega⟩

theorem kept_alloc {w w2 : World} {x : Obj} (h : w2.heap[w.heap.size]? = some x ∧ Below w.heap.size w w2 ∧ w.heap.size + 2 ≤ w2.heap.size) (o : Obj) :
    (w2.alloc o).heap[w.heap.size]? = some x ∧ Below w.heap.size w (w2.alloc o) ∧ w.heap.size + 2 ≤ (w2.alloc o).heap.size := by
  obtain ⟨h1, h2, h3⟩ := h
  exact ⟨by rw [Below.heap_alloc _ _ _ (by omega)]; exact h1, h2.alloc h2.size _, by simp; omega⟩

theorem str_c0 {wr : World} {B a n : Nat} {ns r : List Int} {f : Nat → Int} {x y : Int} (h : wr.rowIs B 22 30 (fun j => .int .u8 (fin a (2 + n) ns f j))) (e : ns = x :: y :: r) (ha : a < 20) : wr.cell? ⟨B, a, none⟩ = some (.int .u8 x) := by
  rw [h.cell (by omega), e]
  have h1 : a ≤ a ∧ a < a + (2 + n) := by omega
  simp only [fin, if_pos h1, Nat.sub_self]
  rfl

theorem str_c1 {wr : World} {B a n : Nat} {ns r : List Int} {f : Nat → Int} {x y : Int} (h : wr.rowIs B 22 30 (fun j => .int .u8 (fin a (2 + n) ns f j))) (e : ns = x :: y :: r) (ha : a < 20) : wr.cell? ⟨B, a + 1, none⟩ = some (.int .u8 y) := by
  rw [h.cell (by omega), e]
  have h1 : a ≤ a + 1 ∧ a + 1 < a + (2 + n) := by omega
  simp only [fin, if_pos h1, Nat.add_sub_cancel_left]
  rfl

-- What a call that only makes memory leaves of a row that was there.
theorem own_below {w w' : World} {B g n c : Nat} {xs : List Value} (h : w.ownsRow B 5 1 (.slice (some ⟨g, 0, none⟩) n c) n xs) (hb : Below w.heap.size w w') : w'.ownsRow B 5 1 (.slice (some ⟨g, 0, none⟩) n c) n xs := by
  have hlt := (h.lt g rfl).2
  obtain ⟨h1, h2⟩ := h
  refine ⟨h1, ?_⟩
  rcases h2 with ⟨hv, _⟩ | ⟨g', cap, cur, hv, r1, r2, r3⟩
  · cases hv
  · refine .inr ⟨g', cap, cur, hv, r1, ?_, r3⟩
    cases hv
    rw [hb.block _ hlt]
    exact r2

theorem kept_below {w w2 w3 : World} {x : Obj} (h : w2.heap[w.heap.size]? = some x ∧ Below w.heap.size w w2 ∧ w.heap.size + 2 ≤ w2.heap.size) (hb : Below w2.heap.size w2 w3) :
    w3.heap[w.heap.size]? = some x ∧ Below w.heap.size w w3 ∧ w.heap.size + 2 ≤ w3.heap.size := by
  obtain ⟨h1, h2, h3⟩ := h
  exact ⟨by rw [hb.block _ (by omega)]; exact h1, h2.trans (hb.mono (by omega)), by have := hb.size; omega⟩

theorem fin_at {a n t : Nat} {ns : List Int} {f : Nat → Int} (ht : t < n) : fin a n ns f (a + t) = ns.getD t 0 := by
  have h1 : a ≤ a + t ∧ a + t < a + n := by omega
  simp only [fin, if_pos h1, Nat.add_sub_cancel_left]

theorem mid_at {ds : List Int} (x y : Int) (j : Nat) (h : j < ds.length) : (x :: (ds ++ [y])).getD (1 + j) 0 = ds.getD j 0 := by
  rw [Nat.add_comm]
  simp [List.getD, List.getElem?_append_left h]

theorem end_at {ds : List Int} (x y : Int) : (x :: (ds ++ [y])).getD (1 + ds.length) 0 = y := by
  rw [Nat.add_comm]
  simp [List.getD]

theorem ve_pos {b a : Nat} {ds ns : List Int} {f : Nat → Int} (c : Bool) (w : World) (ha : a < 20) (hc : Canon false ds) (hns : ns = 105 :: (ds ++ [101]))
    (hrow : w.rowIs b 22 30 (fun j => .int .u8 (fin a (1 + ds.length + 1) ns f j))) :
    Calls Try.prog 21 #[.pointer (some ⟨b, 0, none⟩), .int .u64 a, .bool c] w fun e w' => e = .returned (.int .u64 ((a + 1 + ds.length + 1 : Nat) : Int)) ∧ w' = w := by
  obtain ⟨h1, h8, hd, h48⟩ := hc
  subst hns
  refine ve_int0 b a ds.length _ c w ha h1 h8 (fun i hi => hrow.cell hi) ?_ ?_ ?_ ?_
  · have := fin_at (a := a) (n := 1 + ds.length + 1) (t := 0) (ns := 105 :: (ds ++ [101])) (f := f) (by omega)
    exact this
  · intro j hj
    rw [show a + 1 + j = a + (1 + j) from by omega, fin_at (by omega), mid_at _ _ _ hj]
    exact hd j hj
  · rw [show a + 1 + ds.length = a + (1 + ds.length) from by omega, fin_at (by omega), end_at]
  · rw [fin_at (by omega), show (1 : Nat) = 1 + 0 from rfl, mid_at _ _ _ (by omega)]
    exact fun h => (h48 h).1

theorem ve_neg {b a : Nat} {ds ns : List Int} {f : Nat → Int} (c : Bool) (w : World) (ha : a < 20) (hc : Canon true ds) (hns : ns = 105 :: ((45 :: ds) ++ [101]))
    (hrow : w.rowIs b 22 30 (fun j => .int .u8 (fin a (1 + (1 + ds.length) + 1) ns f j))) :
    Calls Try.prog 21 #[.pointer (some ⟨b, 0, none⟩), .int .u64 a, .bool c] w fun e w' => e = .returned (.int .u64 ((a + 1 + 1 + ds.length + 1 : Nat) : Int)) ∧ w' = w := by
  obtain ⟨h1, h8, hd, h48⟩ := hc
  subst hns
  refine ve_int1 b a ds.length _ c w ha h1 h8 (fun i hi => hrow.cell hi) ?_ ?_ ?_ ?_ ?_
  · have := fin_at (a := a) (n := 1 + (1 + ds.length) + 1) (t := 0) (ns := 105 :: ((45 :: ds) ++ [101])) (f := f) (by omega)
    exact this
  · have := fin_at (a := a) (n := 1 + (1 + ds.length) + 1) (t := 1) (ns := 105 :: ((45 :: ds) ++ [101])) (f := f) (by omega)
    exact this
  · intro j hj
    rw [show a + 1 + 1 + j = a + (1 + (j + 1)) from by omega, fin_at (by omega), mid_at _ _ _ (by simp; omega)]
    exact hd j hj
  · rw [show a + 1 + 1 + ds.length = a + (1 + (45 :: ds).length) from by simp; omega, fin_at (by simp; omega), end_at]
  · rw [show a + 1 + 1 = a + (1 + (0 + 1)) from by omega, fin_at (by omega), mid_at _ _ _ (by simp; omega)]
    intro h
    have := (h48 h).2
    simp at this

set_option maxHeartbeats 1000000 in
theorem law_str (vs : Array Value) (f : Nat → Int) (hvs : vs.size = 30) (hf : ∀ i, i < 30 → vs[i]? = some (.int .u8 (f i))) (a : Nat) (v : Int) (s : ByteArray) (c : Bool) (w : World) (ha : a < 20) (hv1 : -99999999 ≤ v) (hv2 : v ≤ 99999999) (hs9 : s.size ≤ 9) :
    Calls Try.prog 4 #[.agg vs, .int .u64 a, .int .i32 v, .string s, .bool true, .bool c] w fun e w' => e = .returned (.bool true) ∧ Below w.heap.size w w' := by
  have hi : (Try.prog.info? 22).map (·.size) = some vs.size := by rw [hvs]; exact Try.size22
  have hd : decide (s.size ≤ 1048576) = true := by simp; omega
  have hone : vs.all (·.oneCell') = true := by
    rw [Array.all_eq_true]
    intro i h
    have := hf i (by omega)
    rw [Array.getElem?_eq_getElem h] at this
    rw [Option.some.inj this]
    rfl
  have hz30 : (Array.replicate 30 (Value.int .u8 0)).size = vs.size := by simp [hvs]
  have HV : Hid (vs.size = 30) := hvs
  have HF : Hid (∀ i, i < 30 → vs[i]? = some (.int .u8 (f i))) := hf
  obtain ⟨i0, hi0, hz0, hz1, hz2⟩ := info_parts Try.info5
  clear hvs hf
  go_enter Try.func4, Try.ntmps4
  go_wp2_with (first | (refine wpList_load_row rfl 22 (.tmp 6) rfl w.heap.size rfl 22 vs (0, 0) _ (heap_alloc_new w _) Try.underlying22 rfl hi ?_) | (go_at_call 12; refine (bytes12 vs a v s true c _ (by unfold maxLen; omega)).mono ?_; rintro e w' ⟨rfl, rfl⟩; rw [hd]) | (at_make; refine wpList_make_own _ rfl _ _ 29 rfl w.heap.size 5 i0 (.int .u8 0) 1 Try.underlying29 hi0 hz0 hz1 .i64 .i64 12 12 rfl rfl rfl (by rw [hz2]; omega) (by decide) (by simp; omega) ?_; intro w2 hown2 hgrow; replace hown2 := own_norm hown2; have K2 := hide (kept1 hgrow); clear hgrow) | (at_builtin; refine wpList_append_fits _ rfl (.tmp 43) (.tmp 48) 29 rfl w.heap.size 5 i0 1 Try.underlying29 hi0 hz1 (w.heap.size + 1 + 1) 0 12 [] rfl (hown2.alloc _) ⟨w2.heap.size, 0, none⟩ 2 2 [.int .u8 (48 + s.size), .int .u8 58] rfl rfl (news_new _ _ _) (by simp [Value.oneCell']) (by omega) ?_; intro w3 hown3 hgrow3; simp only [Nat.zero_add, List.nil_append] at hown3; have K3 := hide (kept2 (kept_alloc K2.out _) hgrow3); clear hgrow3) | (at_builtin; refine Lib.wpList_append_fits_string _ rfl (.tmp 50) (.tmp 51) 29 9 rfl w.heap.size 5 i0 Try.underlying29 Try.underlying9 hi0 hz1 (some ⟨w.heap.size + 1 + 1, 0, none⟩) 2 12 [.int .u8 (48 + s.size), .int .u8 58] rfl hown3 s rfl (by omega) (by omega) ?_; intro w4 hown4 hgrow4; have K4 := hide (kept2 K3.out hgrow4); clear hgrow4) | (refine wpList_load_row rfl 22 (.tmp 6) rfl w.heap.size rfl 22 vs (0, 0) _ K4.out.1 Try.underlying22 rfl hi ?_) | (refine wpList_store_new rfl 22 (.tmp 14) (.tmp 64) rfl _ vs rfl rfl hi hz30 hone ?_))
  obtain ⟨ns, hns⟩ : ∃ ns : List Int, ns = ((48 + s.size : Int) :: 58 :: s.data.toList.map (fun b => (b.toNat : Int))) := ⟨_, rfl⟩
  have HNS : ns.length = 2 + s.size := by rw [hns]; simp; omega
  have hownE : w4.ownsRow w.heap.size 5 1 (.slice (some ⟨w.heap.size + 1 + 1, 0, none⟩) (2 + s.size) 12) (2 + s.size) (ns.map (Value.int .u8)) := by
    rw [hns]
    simpa [Lib.strCells, Function.comp_def] using hown4
  have HE : Hid (ns = ((48 + s.size : Int) :: 58 :: s.data.toList.map (fun b => (b.toNat : Int)))) := hns
  clear hns hown4 hown3 hown2
  have HN : Hid (ns.length = 2 + s.size) := HNS
  have HO : Hid (w4.ownsRow w.heap.size 5 1 (.slice (some ⟨w.heap.size + 1 + 1, 0, none⟩) (2 + s.size) 12) (2 + s.size) (ns.map (Value.int .u8))) := hownE
  have hgB : w.heap.size + 1 + 1 < w4.heap.size := (hownE.lt _ rfl).2
  have hbW := K4.out.2.1
  clear HNS hownE
  go_loopw [15] (fun i wr => Tail w (w.heap.size + 1 + 1) w4.heap.size a (2 + s.size) ns f i wr) (fun i _ => 2 + s.size - (intOf i).toNat)
  case atStart => exact tail_start HN.out HV.out HF.out HO.out hbW
  case round =>
    unfold Tail at hrel
    obtain ⟨k, hk, rfl, hrow, hcs, hbel⟩ := hrel
    by_cases hlt : k < 2 + s.size
    · have R := tail_step hlt (by omega : w.heap.size + 1 + 1 ≠ w4.heap.size) (by omega) hrow hcs hbel
      have hc1 := hcs k hlt
      have hc2 := hrow.cell (i := a + k) (by omega)
      have hc3 := hrow.frozen (a + k)
      obtain ⟨y, hy⟩ : ∃ y, ns.getD k 0 = y := ⟨_, rfl⟩
      rw [hy] at hc1 R
      clear hrow hcs hbel hy
      go_wp2
      go_roundw
      case rel => exact R
      case measure => simp [intOf]; omega
    · have hkn : k = 2 + s.size := by omega
      subst hkn
      have HR : Hid (wr.rowIs w4.heap.size 22 30 (fun j => .int .u8 (fin a (2 + s.size) ns f j))) := hrow
      clear hrow hcs hlt hk
      go_wp2_with (first | (go_at_call 21; refine (ve_str w4.heap.size a s.size c _ ha hs9 (str_c0 HR.out HE.out ha) (str_c1 HR.out HE.out ha)).mono ?_; rintro e w' ⟨rfl, rfl⟩) | go_in)
      go_ret
      exact ⟨by simp; omega, hbel⟩
set_option maxHeartbeats 1000000 in
theorem law_pos (vs : Array Value) (f : Nat → Int) (hvs : vs.size = 30) (hf : ∀ i, i < 30 → vs[i]? = some (.int .u8 (f i))) (a : Nat) (v : Int) (s : ByteArray) (c : Bool) (w : World) (ha : a < 20) (hv1 : 0 ≤ v) (hv2 : v ≤ 99999999) (hs6 : s.size ≤ 65536) :
    Calls Try.prog 4 #[.agg vs, .int .u64 a, .int .i32 v, .string s, .bool false, .bool c] w fun e w' => e = .returned (.bool true) ∧ Below w.heap.size w w' := by
  have hi : (Try.prog.info? 22).map (·.size) = some vs.size := by rw [hvs]; exact Try.size22
  have hd : decide (s.size ≤ 1048576) = true := by simp; omega
  have hone : vs.all (·.oneCell') = true := by
    rw [Array.all_eq_true]
    intro i h
    have := hf i (by omega)
    rw [Array.getElem?_eq_getElem h] at this
    rw [Option.some.inj this]
    rfl
  have hz30 : (Array.replicate 30 (Value.int .u8 0)).size = vs.size := by simp [hvs]
  have HV : Hid (vs.size = 30) := hvs
  have HF : Hid (∀ i, i < 30 → vs[i]? = some (.int .u8 (f i))) := hf
  obtain ⟨i0, hi0, hz0, hz1, hz2⟩ := info_parts Try.info5
  clear hvs hf
  go_enter Try.func4, Try.ntmps4
  go_wp2_with (first | (refine wpList_load_row rfl 22 (.tmp 6) rfl w.heap.size rfl 22 vs (0, 0) _ (heap_alloc_new w _) Try.underlying22 rfl hi ?_) | (go_at_call 12; refine (bytes12 vs a v s false c _ (by unfold maxLen; omega)).mono ?_; rintro e w' ⟨rfl, rfl⟩; rw [hd]) | (at_make; refine wpList_make_own _ rfl _ _ 29 rfl w.heap.size 5 i0 (.int .u8 0) 1 Try.underlying29 hi0 hz0 hz1 .i64 .i64 12 12 rfl rfl rfl (by rw [hz2]; omega) (by decide) (by simp; omega) ?_; intro w2 hown2 hgrow; replace hown2 := own_norm hown2; have K2 := hide (kept1 hgrow); clear hgrow) | (at_builtin; refine wpList_append_fits _ rfl (.tmp 53) (.tmp 54) 29 rfl w.heap.size 5 i0 1 Try.underlying29 hi0 hz1 (w.heap.size + 1 + 1) 0 12 [] rfl (hown2.alloc _) ⟨w2.heap.size, 0, none⟩ 1 1 [.int .u8 105] rfl rfl (news_new _ _ _) (by simp [Value.oneCell']) (by omega) ?_; intro w3 hown3 hgrow3; simp only [Nat.zero_add, List.nil_append] at hown3; have K3 := hide (kept2 (kept_alloc K2.out _) hgrow3); clear hgrow3) | (go_at_call 13; refine (itoa_pos v _ hv1 hv2).mono ?_; rintro e w4 ⟨g, ds, rfl, hgw, hownI, hcan, hb4⟩; have hown4 := own_below hown3 hb4; have K4 := hide (kept_below K3.out hb4); have hne := (hown3.lt _ rfl).2; have HC := hide hcan; have HNE := hide hne; have HGW := hide hgw; have hl8 := hcan.2.1; have hl1 := hcan.1; clear hcan hne hgw hb4) | (at_builtin; refine wpList_append_fits _ rfl (.tmp 56) (.tmp 59) 29 rfl w.heap.size 5 i0 1 Try.underlying29 hi0 hz1 (w.heap.size + 1 + 1) 1 12 [.int .u8 105] rfl hown4 ⟨g, 0, none⟩ (ds.length) 21 (ds.map (Value.int .u8)) rfl (by simp) (hownI.cells rfl) (ints_oneCell _ _) (by omega) ?_; intro w5 hown5 hgrow5; have K5 := hide (kept2 K4.out hgrow5); clear hgrow5) | (at_builtin; refine wpList_append_fits _ rfl (.tmp 61) (.tmp 62) 29 rfl w.heap.size 5 i0 1 Try.underlying29 hi0 hz1 (w.heap.size + 1 + 1) (1 + ds.length) 12 ([.int .u8 105] ++ (ds.map (Value.int .u8))) rfl (hown5.alloc _) ⟨w5.heap.size, 0, none⟩ 1 1 [.int .u8 101] rfl rfl (news_new _ _ _) (by simp [Value.oneCell']) (by omega) ?_; intro w6 hown6 hgrow6; have K6 := hide (kept2 (kept_alloc K5.out _) hgrow6); clear hgrow6) | (refine wpList_load_row rfl 22 (.tmp 6) rfl w.heap.size rfl 22 vs (0, 0) _ K6.out.1 Try.underlying22 rfl hi ?_) | (refine wpList_store_new rfl 22 (.tmp 14) (.tmp 64) rfl _ vs rfl rfl hi hz30 hone ?_))
  obtain ⟨ns, hns⟩ : ∃ ns : List Int, ns = 105 :: (ds ++ [101]) := ⟨_, rfl⟩
  have HNS : ns.length = 1 + ds.length + 1 := by rw [hns]; simp; omega
  have hownE : w6.ownsRow w.heap.size 5 1 (.slice (some ⟨w.heap.size + 1 + 1, 0, none⟩) (1 + ds.length + 1) 12) (1 + ds.length + 1) (ns.map (Value.int .u8)) := by
    rw [hns]
    simpa using hown6
  have HE : Hid (ns = 105 :: (ds ++ [101])) := hns
  clear hns hown6 hown5 hown4 hown3 hown2 hownI
  have HN : Hid (ns.length = 1 + ds.length + 1) := HNS
  have HO : Hid (w6.ownsRow w.heap.size 5 1 (.slice (some ⟨w.heap.size + 1 + 1, 0, none⟩) (1 + ds.length + 1) 12) (1 + ds.length + 1) (ns.map (Value.int .u8))) := hownE
  have hgB : w.heap.size + 1 + 1 < w6.heap.size := (hownE.lt _ rfl).2
  have hbW := K6.out.2.1
  clear HNS hownE
  go_loopw [15] (fun i wr => Tail w (w.heap.size + 1 + 1) w6.heap.size a (1 + ds.length + 1) ns f i wr) (fun i _ => 1 + ds.length + 1 - (intOf i).toNat)
  case atStart => exact tail_start HN.out HV.out HF.out HO.out hbW
  case round =>
    unfold Tail at hrel
    obtain ⟨k, hk, rfl, hrow, hcs, hbel⟩ := hrel
    by_cases hlt : k < 1 + ds.length + 1
    · have R := tail_step hlt (by omega : w.heap.size + 1 + 1 ≠ w6.heap.size) (by omega) hrow hcs hbel
      have hc1 := hcs k hlt
      have hc2 := hrow.cell (i := a + k) (by omega)
      have hc3 := hrow.frozen (a + k)
      obtain ⟨y, hy⟩ : ∃ y, ns.getD k 0 = y := ⟨_, rfl⟩
      rw [hy] at hc1 R
      clear hrow hcs hbel hy
      go_wp2
      go_roundw
      case rel => exact R
      case measure => simp [intOf]; omega
    · have hkn : k = 1 + ds.length + 1 := by omega
      subst hkn
      have HR : Hid (wr.rowIs w6.heap.size 22 30 (fun j => .int .u8 (fin a (1 + ds.length + 1) ns f j))) := hrow
      clear hrow hcs hlt hk
      go_wp2_with (first | (go_at_call 21; refine (ve_pos c _ ha HC.out HE.out HR.out).mono ?_; rintro e w' ⟨rfl, rfl⟩) | go_in)
      go_ret
      exact ⟨by simp; omega, hbel⟩
set_option maxHeartbeats 1000000 in
theorem law_neg (vs : Array Value) (f : Nat → Int) (hvs : vs.size = 30) (hf : ∀ i, i < 30 → vs[i]? = some (.int .u8 (f i))) (a : Nat) (v : Int) (s : ByteArray) (c : Bool) (w : World) (ha : a < 20) (hv1 : -99999999 ≤ v) (hv2 : v < 0) (hs6 : s.size ≤ 65536) :
    Calls Try.prog 4 #[.agg vs, .int .u64 a, .int .i32 v, .string s, .bool false, .bool c] w fun e w' => e = .returned (.bool true) ∧ Below w.heap.size w w' := by
  have hi : (Try.prog.info? 22).map (·.size) = some vs.size := by rw [hvs]; exact Try.size22
  have hd : decide (s.size ≤ 1048576) = true := by simp; omega
  have hone : vs.all (·.oneCell') = true := by
    rw [Array.all_eq_true]
    intro i h
    have := hf i (by omega)
    rw [Array.getElem?_eq_getElem h] at this
    rw [Option.some.inj this]
    rfl
  have hz30 : (Array.replicate 30 (Value.int .u8 0)).size = vs.size := by simp [hvs]
  have HV : Hid (vs.size = 30) := hvs
  have HF : Hid (∀ i, i < 30 → vs[i]? = some (.int .u8 (f i))) := hf
  obtain ⟨i0, hi0, hz0, hz1, hz2⟩ := info_parts Try.info5
  clear hvs hf
  go_enter Try.func4, Try.ntmps4
  go_wp2_with (first | (refine wpList_load_row rfl 22 (.tmp 6) rfl w.heap.size rfl 22 vs (0, 0) _ (heap_alloc_new w _) Try.underlying22 rfl hi ?_) | (go_at_call 12; refine (bytes12 vs a v s false c _ (by unfold maxLen; omega)).mono ?_; rintro e w' ⟨rfl, rfl⟩; rw [hd]) | (at_make; refine wpList_make_own _ rfl _ _ 29 rfl w.heap.size 5 i0 (.int .u8 0) 1 Try.underlying29 hi0 hz0 hz1 .i64 .i64 12 12 rfl rfl rfl (by rw [hz2]; omega) (by decide) (by simp; omega) ?_; intro w2 hown2 hgrow; replace hown2 := own_norm hown2; have K2 := hide (kept1 hgrow); clear hgrow) | (at_builtin; refine wpList_append_fits _ rfl (.tmp 53) (.tmp 54) 29 rfl w.heap.size 5 i0 1 Try.underlying29 hi0 hz1 (w.heap.size + 1 + 1) 0 12 [] rfl (hown2.alloc _) ⟨w2.heap.size, 0, none⟩ 1 1 [.int .u8 105] rfl rfl (news_new _ _ _) (by simp [Value.oneCell']) (by omega) ?_; intro w3 hown3 hgrow3; simp only [Nat.zero_add, List.nil_append] at hown3; have K3 := hide (kept2 (kept_alloc K2.out _) hgrow3); clear hgrow3) | (go_at_call 13; refine (itoa_neg v _ hv1 hv2).mono ?_; rintro e w4 ⟨g, ds, rfl, hgw, hownI, hcan, hb4⟩; have hown4 := own_below hown3 hb4; have K4 := hide (kept_below K3.out hb4); have hne := (hown3.lt _ rfl).2; have HC := hide hcan; have HNE := hide hne; have HGW := hide hgw; have hl8 := hcan.2.1; have hl1 := hcan.1; clear hcan hne hgw hb4) | (at_builtin; refine wpList_append_fits _ rfl (.tmp 56) (.tmp 59) 29 rfl w.heap.size 5 i0 1 Try.underlying29 hi0 hz1 (w.heap.size + 1 + 1) 1 12 [.int .u8 105] rfl hown4 ⟨g, 0, none⟩ ((1 + ds.length)) 21 (.int .u8 45 :: ds.map (Value.int .u8)) rfl (by simp; omega) (hownI.cells rfl) (by intro u hu; rcases List.mem_cons.1 hu with rfl | hu; exact rfl; exact ints_oneCell _ _ u hu) (by omega) ?_; intro w5 hown5 hgrow5; have K5 := hide (kept2 K4.out hgrow5); clear hgrow5) | (at_builtin; refine wpList_append_fits _ rfl (.tmp 61) (.tmp 62) 29 rfl w.heap.size 5 i0 1 Try.underlying29 hi0 hz1 (w.heap.size + 1 + 1) (1 + (1 + ds.length)) 12 ([.int .u8 105] ++ (.int .u8 45 :: ds.map (Value.int .u8))) rfl (hown5.alloc _) ⟨w5.heap.size, 0, none⟩ 1 1 [.int .u8 101] rfl rfl (news_new _ _ _) (by simp [Value.oneCell']) (by omega) ?_; intro w6 hown6 hgrow6; have K6 := hide (kept2 (kept_alloc K5.out _) hgrow6); clear hgrow6) | (refine wpList_load_row rfl 22 (.tmp 6) rfl w.heap.size rfl 22 vs (0, 0) _ K6.out.1 Try.underlying22 rfl hi ?_) | (refine wpList_store_new rfl 22 (.tmp 14) (.tmp 64) rfl _ vs rfl rfl hi hz30 hone ?_))
  obtain ⟨ns, hns⟩ : ∃ ns : List Int, ns = 105 :: ((45 :: ds) ++ [101]) := ⟨_, rfl⟩
  have HNS : ns.length = 1 + (1 + ds.length) + 1 := by rw [hns]; simp; omega
  have hownE : w6.ownsRow w.heap.size 5 1 (.slice (some ⟨w.heap.size + 1 + 1, 0, none⟩) (1 + (1 + ds.length) + 1) 12) (1 + (1 + ds.length) + 1) (ns.map (Value.int .u8)) := by
    rw [hns]
    simpa using hown6
  have HE : Hid (ns = 105 :: ((45 :: ds) ++ [101])) := hns
  clear hns hown6 hown5 hown4 hown3 hown2 hownI
  have HN : Hid (ns.length = 1 + (1 + ds.length) + 1) := HNS
  have HO : Hid (w6.ownsRow w.heap.size 5 1 (.slice (some ⟨w.heap.size + 1 + 1, 0, none⟩) (1 + (1 + ds.length) + 1) 12) (1 + (1 + ds.length) + 1) (ns.map (Value.int .u8))) := hownE
  have hgB : w.heap.size + 1 + 1 < w6.heap.size := (hownE.lt _ rfl).2
  have hbW := K6.out.2.1
  clear HNS hownE
  go_loopw [15] (fun i wr => Tail w (w.heap.size + 1 + 1) w6.heap.size a (1 + (1 + ds.length) + 1) ns f i wr) (fun i _ => 1 + (1 + ds.length) + 1 - (intOf i).toNat)
  case atStart => exact tail_start HN.out HV.out HF.out HO.out hbW
  case round =>
    unfold Tail at hrel
    obtain ⟨k, hk, rfl, hrow, hcs, hbel⟩ := hrel
    by_cases hlt : k < 1 + (1 + ds.length) + 1
    · have R := tail_step hlt (by omega : w.heap.size + 1 + 1 ≠ w6.heap.size) (by omega) hrow hcs hbel
      have hc1 := hcs k hlt
      have hc2 := hrow.cell (i := a + k) (by omega)
      have hc3 := hrow.frozen (a + k)
      obtain ⟨y, hy⟩ : ∃ y, ns.getD k 0 = y := ⟨_, rfl⟩
      rw [hy] at hc1 R
      clear hrow hcs hbel hy
      go_wp2
      go_roundw
      case rel => exact R
      case measure => simp [intOf]; omega
    · have hkn : k = 1 + (1 + ds.length) + 1 := by omega
      subst hkn
      have HR : Hid (wr.rowIs w6.heap.size 22 30 (fun j => .int .u8 (fin a (1 + (1 + ds.length) + 1) ns f j))) := hrow
      clear hrow hcs hlt hk
      go_wp2_with (first | (go_at_call 21; refine (ve_neg c _ ha HC.out HE.out HR.out).mono ?_; rintro e w' ⟨rfl, rfl⟩) | go_in)
      go_ret
      exact ⟨by simp; omega, hbel⟩
end Go.Proofs.Qxb6003438a
