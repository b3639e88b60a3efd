import Derived.Test.Qxb6603801aSum
import Derived.Test.Qxb6603801aFns2
namespace Go.Proofs.Qxb6603801a
open Go.RowKit
set_option linter.unusedVariables false
set_option linter.unusedSimpArgs false

set_option maxHeartbeats 1000000 in
theorem law4_long (a1 a2 : Option Addr) (n1 n2 c1 c2 : Nat) (r : Int) (w : World) (h1 : n1 ≤ maxLen) (h2 : n2 ≤ maxLen) (h : 4096 < n1 ∨ 4096 < n2) :
    Calls Try.prog 4 #[.slice a1 n1 c1, .slice a2 n2 c2, .int .i64 r] w fun e w' => e = .returned (.bool true) ∧ Below w.heap.size w w' := by
  have B := hideP (bytes11 a1 a2 n1 n2 c1 c2 r w h1 h2)
  unfold maxLen at h1 h2
  by_cases e0 : 4096 < n1
  · clear h
    go_enter Try.func4, Try.ntmps4
    go_wp2_with (go_at_call 11; refine B.out.mono ?_; rintro e w' ⟨⟨b, rfl, _⟩, rfl⟩; cases b)
    all_goals (go_ret; exact ⟨rfl, Below.refl _ _⟩)
  · have e1 : 4096 < n2 := by omega
    clear h
    go_enter Try.func4, Try.ntmps4
    go_wp2_with (go_at_call 11; refine B.out.mono ?_; rintro e w' ⟨⟨b, rfl, _⟩, rfl⟩; cases b)
    all_goals (go_ret; exact ⟨rfl, Below.refl _ _⟩)

theorem kept_grown {w w' : World} (h : Kept (fun b => w.heap.size ≤ b) w w') : w.grownBy w' none := ⟨h.os, h.tape, h.output, h.size, fun k hk _ => h.block k hk (by omega)⟩
theorem below_grown {w w' : World} (h : Below w.heap.size w w') : w.grownBy w' none := ⟨h.os, h.tape, h.output, h.size, fun k hk _ => h.block k hk⟩

-- A copy of a row that lies there.
theorem copy_row (b n : Nat) (f : Nat → Int) (w : World) (hn : n ≤ 4096) (r : w.rowIs b 3 n (ints f)) :
    Calls Try.prog 8 #[.slice (some ⟨b, 0, none⟩) n n] w fun e w' => e = .returned (.slice (some ⟨w.heap.size, 0, none⟩) n n) ∧ w'.rowIs w.heap.size 3 n (ints f) ∧ w'.heap.size = w.heap.size + 1 ∧ w.grownBy w' none :=
  (clone_row b 0 n n f w (by omega) (fun i hi => by rw [Nat.zero_add]; exact ints_cell r hi)).mono fun _ _ ⟨h1, h2, h3, h4⟩ => ⟨h1, h2, h3, below_grown h4⟩

-- ZZSumSmallest on two fresh copies.
theorem zsum (n : Nat) (V W : Nat → Int) (r : Int) (u u1 u2 : World) (hn : n ≤ 4096) (hn0 : 0 < n) (g1 : u.grownBy u1 none) (s1 : u1.heap.size = u.heap.size + 1) (g2 : u1.grownBy u2 none) (s2 : u2.heap.size = u1.heap.size + 1)
    (rv : u1.rowIs u.heap.size 3 n (ints V)) (rw_ : u2.rowIs u1.heap.size 3 n (ints W)) (nn : ∀ j, j < n → 0 ≤ W j) (htot : sm n W ≤ 9223372036854775807) (hr1 : 1 ≤ r) (hr2 : r ≤ sm n W) :
    Calls Try.prog 9 #[.slice (some ⟨u.heap.size, 0, none⟩) n n, .slice (some ⟨u1.heap.size, 0, none⟩) n n, .int .i64 r] u2 fun e w' =>
      SumRes (fun b => u.heap.size ≤ b) u u.heap.size u1.heap.size n V W r e w' := by
  have C := hideP (sum_any (fun b => u.heap.size ≤ b) u u.heap.size u1.heap.size n V W r u2 (Nat.le_refl _) (by omega) (by omega) hn hn0 (row_grown rv g2 (by simp)) rw_ nn htot hr1 hr2 ((Kept.refl _ u).grown (grown_then g1 g2) (by simp)))
  clear g1 s1 g2 s2 rv rw_ nn htot hr1 hr2
  go_enter Try.func9, Try.ntmps9
  go_wp2_with fail
  refine C.out.mono ?_
  rintro e w' ⟨t, b, a, V', W', rfl, h1, h2, h3, h4, h5, h6, h7⟩
  have H := hideP (And.intro h1 (And.intro h2 (And.intro h3 (And.intro h4 (And.intro h5 (And.intro h6 h7))))))
  obtain ⟨x, hx⟩ : ∃ x, wrap64 (Fs n V W r t) = x := ⟨_, rfl⟩
  have HX := hideP hx
  rw [hx]
  clear h1 h2 h3 h4 h5 h6 h7 C hx
  go_wp2
  go_ret
  obtain ⟨h1, h2, h3, h4, h5, h6, h7⟩ := H.out
  exact ⟨t, b, a, V', W', by rw [HX.out]; rfl, h1, h2, h3, h4, h5, h6, h7⟩

end Go.Proofs.Qxb6603801a
