import Derived.Test.Qxb6003438aRows
import Derived.WalkKit
import Derived.WalkSpells
import Derived.WalkLawsBesides
import Derived.Deep.OwnRows
namespace Go.Proofs.Qxb6003438a
open Go.RowKit
set_option linter.unusedVariables false
set_option linter.unusedSimpArgs false

theorem pow_step (U : Int) (n : Nat) (h : U < 10 ^ (n + 1)) : U / 10 < 10 ^ n := by
  rw [Int.pow_succ] at h
  exact Int.ediv_lt_of_lt_mul (by omega) h

-- What the digits' loop keeps: p the place of the last digit written, U what is left of the number.
def ItoaInv (w : World) (neg : Bool) (u i : Value) (wr : World) : Prop :=
  ∃ (p : Nat) (U : Int) (d : Nat → Int), 12 ≤ p ∧ p ≤ 20 ∧ i = .int .i64 p ∧ u = .int .u64 U ∧ 0 ≤ U ∧ U ≤ 99999999 ∧ U < 10 ^ (p - 12) ∧ (p < 20 → U ≠ 0) ∧ (neg = true → U ≠ 0) ∧
    wr.rowIs w.heap.size 43 20 (fun j => .int .u8 (d j)) ∧ (∀ j, p ≤ j → j < 20 → 48 ≤ d j ∧ d j ≤ 57) ∧ wr.heap.size = w.heap.size + 1 ∧ Below w.heap.size w wr

theorem itoa_start (w : World) (neg : Bool) (U : Int) (h0 : 0 ≤ U) (h1 : U ≤ 99999999) (hn : neg = true → U ≠ 0) (c : Array Value) (hc : c = Array.replicate 20 (.int .u8 0)) :
    ItoaInv w neg (.int .u64 U) (.int .i64 20) (w.alloc (.cells c 43)) := by
  subst hc
  refine ⟨20, U, fun _ => 0, by omega, by omega, rfl, rfl, h0, h1, by simp; omega, by omega, hn, ?_, by omega, by simp, (Below.refl _ _).alloc (Nat.le_refl _) _⟩
  have := World.rowIs_alloc w (Array.replicate 20 (Value.int .u8 0)) 43 (fun _ => .int .u8 0) (fun i hi => by simp at hi; rw [Array.getElem?_replicate, if_pos hi])
  simpa using this

theorem itoa_step {w wr : World} {neg : Bool} {p : Nat} {U : Int} {d : Nat → Int} (hp1 : 13 ≤ p) (hp2 : p ≤ 20) (h0 : 0 ≤ U) (h1 : U ≤ 99999999) (hU : U < 10 ^ (p - 12))
    (hrow : wr.rowIs w.heap.size 43 20 (fun j => .int .u8 (d j))) (hd : ∀ j, p ≤ j → j < 20 → 48 ≤ d j ∧ d j ≤ 57) (hs : wr.heap.size = w.heap.size + 1) (hb : Below w.heap.size w wr) (hz : ¬ U / 10 = 0) :
    ItoaInv w neg (.int .u64 (U / 10)) (.int .i64 ((p : Int) - 1)) (wr.setCell ⟨w.heap.size, p - 1, none⟩ (.int .u8 (48 + U % 10))) := by
  refine ⟨p - 1, U / 10, fun j => if j = p - 1 then 48 + U % 10 else d j, by omega, by omega, by go_num, rfl, by omega, by omega, ?_, fun _ => hz, fun _ => hz, ?_, ?_, ?_, hb.setCell (Nat.le_refl _) _⟩
  · have e : p - 12 = (p - 1 - 12) + 1 := by omega
    rw [e] at hU
    exact pow_step _ _ hU
  · refine (hrow.set (p - 1) (.int .u8 (48 + U % 10))).congr fun j hj => ?_
    dsimp only
    split <;> rfl
  · intro j h1 h2
    dsimp only
    split
    · omega
    · exact hd j (by omega) h2
  · simpa [World.setCell] using hs

-- A number's text: its digits, and whether a sign stands ahead of them.
def Canon (neg : Bool) (ds : List Int) : Prop :=
  1 ≤ ds.length ∧ ds.length ≤ 8 ∧ (∀ j, j < ds.length → 48 ≤ ds.getD j 0 ∧ ds.getD j 0 ≤ 57) ∧ (ds.getD 0 0 = 48 → ds.length = 1 ∧ neg = false)

theorem itoa_last {w wr : World} {neg : Bool} {p : Nat} {U : Int} {d : Nat → Int} (hp1 : 13 ≤ p) (hp2 : p ≤ 20) (h0 : 0 ≤ U) (hne : p < 20 → U ≠ 0) (hng : neg = true → U ≠ 0)
    (hrow : wr.rowIs w.heap.size 43 20 (fun j => .int .u8 (d j))) (hd : ∀ j, p ≤ j → j < 20 → 48 ≤ d j ∧ d j ≤ 57) (hb : Below w.heap.size w wr) (hz : U / 10 = 0) :
    ∃ ds : List Int, ds.length = 21 - p ∧ Canon neg ds ∧ (∀ j, j < ds.length → (wr.setCell ⟨w.heap.size, p - 1, none⟩ (.int .u8 (48 + U % 10))).cell? ⟨w.heap.size, p - 1 + j, none⟩ = some (.int .u8 (ds.getD j 0))) ∧
      Below w.heap.size w (wr.setCell ⟨w.heap.size, p - 1, none⟩ (.int .u8 (48 + U % 10))) := by
  have hrow' := hrow.set (p - 1) (.int .u8 (48 + U % 10))
  refine ⟨(List.range (21 - p)).map (fun j => if j = 0 then 48 + U % 10 else d (p - 1 + j)), by simp, ⟨by simp; omega, by simp; omega, ?_, ?_⟩, ?_, hb.setCell (Nat.le_refl _) _⟩
  · intro j hj
    simp at hj
    simp [List.getD, hj]
    split
    · omega
    · exact hd _ (by omega) (by omega)
  · have h21 : 0 < 21 - p := by omega
    simp [List.getD, h21]
    intro h
    have hu : U = 0 := by omega
    have hp : p = 20 := by
      rcases Nat.lt_or_ge p 20 with h | h
      · exact absurd hu (hne h)
      · omega
    refine ⟨by omega, ?_⟩
    cases neg
    · rfl
    · exact absurd hu (hng rfl)
  · intro j hj
    simp at hj
    rw [hrow'.cell (by omega)]
    simp [List.getD, hj]
    by_cases e : j = 0
    · simp [e]
    · rw [if_neg (by omega), if_neg e]

theorem Try.info5 : (Try.prog.info? 5).map (fun i => (i.zero, i.size, i.bytes)) = some (some (.int .u8 0), 1, 1) := by kernel_rfl

theorem Try.cells5 : Try.prog.cellsOf 5 = 1 := by kernel_rfl
theorem run_cut20 (B p : Nat) (h1 : 13 ≤ p) (h2 : p ≤ 20) (w : World) :
    (Instr.sliceAt 43 (.pointer (some ⟨B, 0, none⟩)) (some (.int .i64 ((p : Int) - 1))) none none).run Try.prog w = .ok (.slice (some ⟨B, p - 1, none⟩) (21 - p) (21 - p)) w := by
  obtain ⟨i0, hi, _, hz1, _⟩ := info_parts Try.info5
  have e1 : Try.prog.arrayLen 43 = 20 := by simp [Program.arrayLen, Try.underlying43]
  have e2 : Try.prog.elem 43 = 5 := by simp [Program.elem, Try.underlying43]
  rw [run_sliceAt_array_l w 43 ⟨B, 0, none⟩ (by rw [e1, e2]; exact Try.underlying43) .i64 _ (by omega) (by rw [e1]; omega), e1, e2]
  have e3 : ((p : Int) - 1).toNat = p - 1 := by omega
  have e4 : (sizeOf 5).run Try.prog w = .ok 1 w := by simp [sizeOf, typeInfo, hi, hz1]
  simp only [e4, Result.andThen, slicedAt, e3]
  rw [if_neg (by omega), Nat.mul_one, Addr.add_lit, Nat.zero_add, show 20 - (p - 1) = 21 - p from by omega]

theorem news_of {w0 w2 : World} {row : Option Nat} {B off : Nat} {ds : List Int} (hcs : ∀ j, j < ds.length → w0.cell? ⟨B, off + j, none⟩ = some (.int .u8 (ds.getD j 0))) (hg : w0.grownBy w2 row) (hne : some B ≠ row) :
    ∀ j u, (ds.map (Value.int .u8))[j]? = some u → w2.cell? ((⟨B, off, none⟩ : Addr).add j) = some u := by
  intro j u hu
  have hj : j < ds.length := by
    have := (List.getElem?_eq_some_iff.1 hu).1
    simpa using this
  rw [Addr.add_lit]
  refine hg.cell ?_ hne
  rw [hcs j hj]
  rw [← hu]
  simp [List.getD, hj]

theorem itoa_end {w wr w2 w3 : World} {p : Nat} {U : Int} (hz : wr.heap.size = w.heap.size + 1)
    (hbl : Below w.heap.size w (wr.setCell ⟨w.heap.size, p - 1, none⟩ (.int .u8 (48 + U % 10)))) (hg : (wr.setCell ⟨w.heap.size, p - 1, none⟩ (.int .u8 (48 + U % 10))).grownBy w2 none)
    (hg3 : w2.grownBy w3 (some wr.heap.size)) :
    Below w.heap.size w w3 := by
  have b2 := hbl.grown hg (by simp [World.setCell]; omega) (by simp)
  have := b2.size
  exact b2.grown hg3 this (by simp; omega)

theorem news_of3 {w w0 w2 w3 : World} {R : Nat} {o : Obj} {off : Nat} {ds : List Int} (hR : R = w.heap.size + 1) (hcs : ∀ j, j < ds.length → w0.cell? ⟨w.heap.size, off + j, none⟩ = some (.int .u8 (ds.getD j 0))) (hg : w0.grownBy w2 none)
    (hg3 : (w2.alloc o).grownBy w3 (some R)) :
    ∀ j u, (ds.map (Value.int .u8))[j]? = some u → w3.cell? ((⟨w.heap.size, off, none⟩ : Addr).add j) = some u := by
  intro j u hu
  have h := (World.grownBy_alloc w2 o none).cell (news_of hcs hg (by simp) j u hu) (by simp)
  exact hg3.cell h (by rw [Addr.add_lit]; simp; omega)

theorem itoa_end' {w wr w2 w3 w4 : World} {o : Obj} {p : Nat} {U : Int} (hz : wr.heap.size = w.heap.size + 1)
    (hbl : Below w.heap.size w (wr.setCell ⟨w.heap.size, p - 1, none⟩ (.int .u8 (48 + U % 10)))) (hg : (wr.setCell ⟨w.heap.size, p - 1, none⟩ (.int .u8 (48 + U % 10))).grownBy w2 none)
    (hg3 : (w2.alloc o).grownBy w3 (some wr.heap.size)) (hg4 : w3.grownBy w4 (some wr.heap.size)) :
    Below w.heap.size w w4 := by
  have b2 := hbl.grown hg (by simp [World.setCell]; omega) (by simp)
  have s2 := b2.size
  have b2a := b2.alloc s2 o
  have b3 := b2a.grown hg3 b2a.size (by simp; omega)
  exact b3.grown hg4 b3.size (by simp; omega)

set_option maxHeartbeats 400000 in
theorem itoa_pos (v : Int) (w : World) (h1 : 0 ≤ v) (h2 : v ≤ 99999999) :
    Calls Try.prog 13 #[.int .i64 v] w fun e w' => ∃ (g : Nat) (ds : List Int), e = .returned (.slice (some ⟨g, 0, none⟩) ds.length 21) ∧ w.heap.size ≤ g ∧ 
      w'.ownsRow w.heap.size 5 1 (.slice (some ⟨g, 0, none⟩) ds.length 21) ds.length (ds.map (Value.int .u8)) ∧ Canon false ds ∧ Below w.heap.size w w' := by
  obtain ⟨i0, hi, hz0, hz1, hz2⟩ := info_parts Try.info5
  go_enter Try.func13, Try.ntmps13
  go_wp2
  go_loopw [4, 6] (fun u i wr => ItoaInv w false u i wr) (fun _ i _ => (intOf i).toNat)
  case atStart => exact itoa_start w false v h1 h2 (by simp) _ rfl
  case round =>
    unfold ItoaInv at hrel
    obtain ⟨p, U, d, hp1, hp2, rfl, rfl, hU0, hU1, hUp, hne, hng, hrow, hdig, hsz, hbel⟩ := hrel
    have hp3 : 13 ≤ p := by
      rcases Nat.lt_or_ge 12 p with h | h
      · omega
      · have : p = 12 := by omega
        subst this
        have := hne (by omega)
        simp at hUp
        omega
    have hcell := hrow.cell (i := p - 1) (by omega)
    have hfr := hrow.frozen (p - 1)
    by_cases hz : U / 10 = 0
    · obtain ⟨ds, hdl, hcan, hcs, hbl⟩ := itoa_last hp3 hp2 hU0 hne hng hrow hdig hbel hz
      have hzb : (U / 10 == 0) = true := by simpa using hz
      have HDL : Hid (ds.length = 21 - p) := hdl
      have HCS : Hid (∀ j, j < ds.length → (wr.setCell ⟨w.heap.size, p - 1, none⟩ (.int .u8 (48 + U % 10))).cell? ⟨w.heap.size, p - 1 + j, none⟩ = some (.int .u8 (ds.getD j 0))) := hcs
      have HC : Hid (Canon false ds) := hcan
      have HZ : Hid (wr.heap.size = w.heap.size + 1) := hsz
      clear hUp hdig hrow hne hng hdl hcs hz hbel hcan hsz
      have hcut := run_cut20 w.heap.size p hp3 hp2
      have HN : Hid (∀ w2, (wr.setCell ⟨w.heap.size, p - 1, none⟩ (.int .u8 (48 + U % 10))).grownBy w2 none → ∀ j u, (ds.map (Value.int .u8))[j]? = some u → w2.cell? ((⟨w.heap.size, p - 1, none⟩ : Addr).add j) = some u) := fun w2 hg => news_of HCS.out hg (by simp)
      have HL : Hid ((ds.map (Value.int .u8)).length = (21 - p) * 1) := by simp [Hid, HDL.out]
      go_wp2_with (first | (at_make; refine wpList_make_own _ rfl _ _ 29 rfl w.heap.size 5 i0 (.int .u8 0) 1 Try.underlying29 hi hz0 hz1 .i64 .i64 21 21 rfl rfl rfl (by rw [hz2]; omega) (by decide) (by have := HZ.out; simp [World.setCell]; omega) ?_; intro w2 hown hgrow; simp only [World.setCell, Array.size_modify] at hown) | (at_builtin; refine wpList_append_fits _ rfl (.tmp 35) (.tmp 37) 29 rfl w.heap.size 5 i0 1 Try.underlying29 hi hz1 wr.heap.size 0 21 [] rfl hown ⟨w.heap.size, p - 1, none⟩ (21 - p) (21 - p) (ds.map (Value.int .u8)) rfl HL.out (HN.out _ hgrow) (ints_oneCell _ _) (by omega) ?_; intro w3 hown3 hgrow3))
      go_ret
      refine ⟨wr.heap.size, ds, ?_, by have := HZ.out; omega, ?_, HC.out, itoa_end HZ.out hbl hgrow hgrow3⟩
      · rw [HDL.out]; simp
      · rw [HDL.out]; simpa using hown3
    · have R := itoa_step (neg := false) hp3 hp2 hU0 hU1 hUp hrow hdig hsz hbel hz
      have hzb : (U / 10 == 0) = false := by simpa using hz
      clear hUp hdig hrow hne hng hz hsz hbel
      go_wp2
      go_roundw
      case rel => exact R
      case measure => simp [intOf]; omega
set_option maxHeartbeats 400000 in
theorem itoa_neg (v : Int) (w : World) (h1 : -99999999 ≤ v) (h2 : v < 0) :
    Calls Try.prog 13 #[.int .i64 v] w fun e w' => ∃ (g : Nat) (ds : List Int), e = .returned (.slice (some ⟨g, 0, none⟩) (1 + ds.length) 21) ∧ w.heap.size ≤ g ∧ 
      w'.ownsRow w.heap.size 5 1 (.slice (some ⟨g, 0, none⟩) (1 + ds.length) 21) (1 + ds.length) (.int .u8 45 :: ds.map (Value.int .u8)) ∧ Canon true ds ∧ Below w.heap.size w w' := by
  obtain ⟨i0, hi, hz0, hz1, hz2⟩ := info_parts Try.info5
  go_enter Try.func13, Try.ntmps13
  go_wp2
  go_loopw [4, 6] (fun u i wr => ItoaInv w true u i wr) (fun _ i _ => (intOf i).toNat)
  case atStart => exact itoa_start w true _ (by omega) (by omega) (fun _ => by omega) _ rfl
  case round =>
    unfold ItoaInv at hrel
    obtain ⟨p, U, d, hp1, hp2, rfl, rfl, hU0, hU1, hUp, hne, hng, hrow, hdig, hsz, hbel⟩ := hrel
    have hp3 : 13 ≤ p := by
      rcases Nat.lt_or_ge 12 p with h | h
      · omega
      · have : p = 12 := by omega
        subst this
        have := hne (by omega)
        simp at hUp
        omega
    have hcell := hrow.cell (i := p - 1) (by omega)
    have hfr := hrow.frozen (p - 1)
    by_cases hz : U / 10 = 0
    · obtain ⟨ds, hdl, hcan, hcs, hbl⟩ := itoa_last hp3 hp2 hU0 hne hng hrow hdig hbel hz
      have hzb : (U / 10 == 0) = true := by simpa using hz
      have HDL : Hid (ds.length = 21 - p) := hdl
      have HCS : Hid (∀ j, j < ds.length → (wr.setCell ⟨w.heap.size, p - 1, none⟩ (.int .u8 (48 + U % 10))).cell? ⟨w.heap.size, p - 1 + j, none⟩ = some (.int .u8 (ds.getD j 0))) := hcs
      have HC : Hid (Canon true ds) := hcan
      have HZ : Hid (wr.heap.size = w.heap.size + 1) := hsz
      clear hUp hdig hrow hne hng hdl hcs hz hbel hcan hsz
      have hcut := run_cut20 w.heap.size p hp3 hp2
      have HN : Hid (∀ w2 w3 o, (wr.setCell ⟨w.heap.size, p - 1, none⟩ (.int .u8 (48 + U % 10))).grownBy w2 none → (w2.alloc o).grownBy w3 (some wr.heap.size) → ∀ j u, (ds.map (Value.int .u8))[j]? = some u → w3.cell? ((⟨w.heap.size, p - 1, none⟩ : Addr).add j) = some u) := fun w2 w3 o hg hg3 => news_of3 HZ.out HCS.out hg hg3
      have HL : Hid ((ds.map (Value.int .u8)).length = (21 - p) * 1) := by simp [Hid, HDL.out]
      go_wp2_with (first | (at_make; refine wpList_make_own _ rfl _ _ 29 rfl w.heap.size 5 i0 (.int .u8 0) 1 Try.underlying29 hi hz0 hz1 .i64 .i64 21 21 rfl rfl rfl (by rw [hz2]; omega) (by decide) (by have := HZ.out; simp [World.setCell]; omega) ?_; intro w2 hown hgrow; simp only [World.setCell, Array.size_modify] at hown) | (at_builtin; refine wpList_append_fits _ rfl (.tmp 32) (.tmp 33) 29 rfl w.heap.size 5 i0 1 Try.underlying29 hi hz1 wr.heap.size 0 21 [] rfl (hown.alloc _) ⟨w2.heap.size, 0, none⟩ 1 1 [.int .u8 45] rfl rfl (cell_one_new _ _ _) (by simp [Value.oneCell']) (by omega) ?_; intro w3 hown3 hgrow3; simp only [Nat.zero_add, List.nil_append] at hown3) | (at_builtin; refine wpList_append_fits _ rfl (.tmp 35) (.tmp 37) 29 rfl w.heap.size 5 i0 1 Try.underlying29 hi hz1 wr.heap.size 1 21 [.int .u8 45] rfl hown3 ⟨w.heap.size, p - 1, none⟩ (21 - p) (21 - p) (ds.map (Value.int .u8)) rfl HL.out (HN.out _ _ _ hgrow hgrow3) (ints_oneCell _ _) (by omega) ?_; intro w4 hown4 hgrow4))
      go_ret
      refine ⟨wr.heap.size, ds, ?_, by have := HZ.out; omega, ?_, HC.out, itoa_end' HZ.out hbl hgrow hgrow3 hgrow4⟩
      · rw [HDL.out]; rfl
      · rw [HDL.out]; simpa using hown4
    · have R := itoa_step (neg := true) hp3 hp2 hU0 hU1 hUp hrow hdig hsz hbel hz
      have hzb : (U / 10 == 0) = false := by simpa using hz
      clear hUp hdig hrow hne hng hz hsz hbel
      go_wp2
      go_roundw
      case rel => exact R
      case measure => simp [intOf]; omega
end Go.Proofs.Qxb6003438a
