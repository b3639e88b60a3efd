import Derived.RowKit
namespace Go.Proofs.Qxb6603801a
open Go.RowKit
set_option linter.unusedVariables false
set_option linter.unusedSimpArgs false

/-! ### Finite sums over the first n places -/
def sm : Nat → (Nat → Int) → Int
  | 0, _ => 0
  | n + 1, F => sm n F + F n

theorem sm_succ (n : Nat) (F : Nat → Int) : sm (n + 1) F = sm n F + F n := rfl

theorem sm_congr {n : Nat} {F G : Nat → Int} (h : ∀ j, j < n → F j = G j) : sm n F = sm n G := by
  induction n with
  | zero => rfl
  | succ n ih => rw [sm_succ, sm_succ, ih (fun j hj => h j (by omega)), h n (by omega)]

theorem sm_zero {n : Nat} {F : Nat → Int} (h : ∀ j, j < n → F j = 0) : sm n F = 0 := by
  induction n with
  | zero => rfl
  | succ n ih => rw [sm_succ, ih (fun j hj => h j (by omega)), h n (by omega)]; rfl

theorem sm_nonneg {n : Nat} {F : Nat → Int} (h : ∀ j, j < n → 0 ≤ F j) : 0 ≤ sm n F := by
  induction n with
  | zero => exact Int.le_refl _
  | succ n ih => have := ih (fun j hj => h j (by omega)); have := h n (by omega); rw [sm_succ]; omega

theorem sm_mono {n : Nat} {F G : Nat → Int} (h : ∀ j, j < n → F j ≤ G j) : sm n F ≤ sm n G := by
  induction n with
  | zero => exact Int.le_refl _
  | succ n ih => have := ih (fun j hj => h j (by omega)); have := h n (by omega); rw [sm_succ, sm_succ]; omega

theorem sm_add (n : Nat) (F G : Nat → Int) : sm n (fun j => F j + G j) = sm n F + sm n G := by
  induction n with
  | zero => rfl
  | succ n ih => rw [sm_succ, sm_succ, sm_succ, ih]; omega

theorem sm_up {n m : Nat} {F : Nat → Int} (hnm : n ≤ m) (h : ∀ j, j < m → 0 ≤ F j) : sm n F ≤ sm m F := by
  induction m with
  | zero => have : n = 0 := by omega
            subst this; exact Int.le_refl _
  | succ m ih =>
    by_cases e : n = m + 1
    · subst e; exact Int.le_refl _
    · have := ih (by omega) (fun j hj => h j (by omega)); have := h m (by omega); rw [sm_succ]; omega

-- A sum of nothing negative that is nought has no term that counts.
theorem sm_eq_zero {n : Nat} {F : Nat → Int} (h : ∀ j, j < n → 0 ≤ F j) (h0 : sm n F = 0) : ∀ j, j < n → F j = 0 := by
  induction n with
  | zero => intro j hj; omega
  | succ n ih =>
    rw [sm_succ] at h0
    have a := sm_nonneg (n := n) (F := F) (fun j hj => h j (by omega))
    have b := h n (by omega)
    intro j hj
    by_cases e : j = n
    · subst e; omega
    · exact ih (fun j hj => h j (by omega)) (by omega) j (by omega)

theorem sm_pos {n : Nat} {F : Nat → Int} (h : ∀ j, j < n → 0 ≤ F j) (h0 : 0 < sm n F) : ∃ j, j < n ∧ 0 < F j := by
  induction n with
  | zero => simp [sm] at h0
  | succ n ih =>
    by_cases e : 0 < F n
    · exact ⟨n, by omega, e⟩
    · have hn := h n (by omega)
      rw [sm_succ] at h0
      obtain ⟨j, hj, r⟩ := ih (fun j hj => h j (by omega)) (by omega)
      exact ⟨j, by omega, r⟩

theorem sm_update {n a : Nat} (F : Nat → Int) (x : Int) (ha : a < n) : sm n (fun j => if j = a then x else F j) = sm n F - F a + x := by
  induction n with
  | zero => omega
  | succ n ih =>
    rw [sm_succ, sm_succ]
    by_cases e : a = n
    · subst e
      rw [if_pos rfl, sm_congr (G := F) (fun j hj => by rw [if_neg (by omega)])]
      omega
    · rw [ih (by omega), if_neg (by omega)]
      omega

-- Two places change what they hold.
def sw (a b : Nat) (V : Nat → Int) : Nat → Int := fun j => if j = b then V a else if j = a then V b else V j

theorem sw_at (a b : Nat) (V : Nat → Int) (j : Nat) : sw a b V j = V (if j = b then a else if j = a then b else j) := by
  unfold sw
  split
  · rfl
  · split <;> rfl

theorem sm_swap {n a b : Nat} (F : Nat → Int) (ha : a < n) (hb : b < n) : sm n (fun j => F (if j = b then a else if j = a then b else j)) = sm n F := by
  have e : sm n (fun j => F (if j = b then a else if j = a then b else j)) = sm n (fun j => if j = b then F a else (fun j => if j = a then F b else F j) j) := by
    apply sm_congr
    intro j _
    dsimp only
    split
    · rfl
    · split <;> rfl
  rw [e, sm_update _ _ hb, sm_update _ _ ha]
  split
  · rename_i h; subst h; omega
  · omega

theorem sm_sw {n a b : Nat} (g : Int → Int → Int) (V W : Nat → Int) (ha : a < n) (hb : b < n) : sm n (fun j => g (sw a b V j) (sw a b W j)) = sm n (fun j => g (V j) (W j)) := by
  have := sm_swap (fun j => g (V j) (W j)) ha hb
  rw [← this]
  apply sm_congr
  intro j _
  rw [sw_at, sw_at]

-- The two rows hold the same pairs, each as often.
def Eqv (n : Nat) (V0 W0 V W : Nat → Int) : Prop := ∀ g : Int → Int → Int, sm n (fun j => g (V j) (W j)) = sm n (fun j => g (V0 j) (W0 j))

theorem Eqv.refl (n : Nat) (V W : Nat → Int) : Eqv n V W V W := fun _ => rfl
theorem Eqv.sw {n : Nat} {V0 W0 V W : Nat → Int} (h : Eqv n V0 W0 V W) {a b : Nat} (ha : a < n) (hb : b < n) : Eqv n V0 W0 (sw a b V) (sw a b W) := fun g => (sm_sw g V W ha hb).trans (h g)

/-! ### The r-th smallest of the counted values -/
def ltS (n : Nat) (V W : Nat → Int) (x : Int) : Int := sm n (fun j => if V j < x then W j else 0)
def leS (n : Nat) (V W : Nat → Int) (x : Int) : Int := sm n (fun j => if V j ≤ x then W j else 0)
def suS (n : Nat) (V W : Nat → Int) (x : Int) : Int := sm n (fun j => if V j < x then W j * V j else 0)

theorem Eqv.lt {n : Nat} {V0 W0 V W : Nat → Int} (h : Eqv n V0 W0 V W) (x : Int) : ltS n V W x = ltS n V0 W0 x := h (fun v w => if v < x then w else 0)
theorem Eqv.le {n : Nat} {V0 W0 V W : Nat → Int} (h : Eqv n V0 W0 V W) (x : Int) : leS n V W x = leS n V0 W0 x := h (fun v w => if v ≤ x then w else 0)
theorem Eqv.su {n : Nat} {V0 W0 V W : Nat → Int} (h : Eqv n V0 W0 V W) (x : Int) : suS n V W x = suS n V0 W0 x := h (fun v w => if v < x then w * v else 0)
theorem Eqv.tot {n : Nat} {V0 W0 V W : Nat → Int} (h : Eqv n V0 W0 V W) : sm n W = sm n W0 := h (fun _ w => w)

-- A row that is parted in three.
def Parted (n lo hi : Nat) (V : Nat → Int) (t : Int) : Prop := lo ≤ hi ∧ hi ≤ n ∧ (∀ j, j < lo → V j < t) ∧ (∀ j, lo ≤ j → j < hi → V j = t) ∧ (∀ j, hi ≤ j → j < n → t < V j)

theorem sm_head {n m : Nat} (F : Nat → Int) (hmn : m ≤ n) : sm n (fun j => if j < m then F j else 0) = sm m F := by
  induction n with
  | zero => have : m = 0 := by omega
            subst this; rfl
  | succ n ih =>
    by_cases e : m = n + 1
    · subst e; exact sm_congr (fun j hj => by rw [if_pos hj])
    · rw [sm_succ, ih (by omega), if_neg (by omega)]; omega

theorem Parted.lt {n lo hi : Nat} {V : Nat → Int} {t : Int} (h : Parted n lo hi V t) (W : Nat → Int) : ltS n V W t = sm lo W := by
  obtain ⟨h1, h2, a, b, c⟩ := h
  unfold ltS
  rw [← sm_head W (show lo ≤ n by omega)]
  apply sm_congr
  intro j hj
  by_cases e : j < lo
  · rw [if_pos e, if_pos (a j e)]
  · rw [if_neg e, if_neg]
    by_cases e2 : j < hi
    · rw [b j (by omega) e2]; omega
    · have := c j (by omega) hj; omega
theorem Parted.le {n lo hi : Nat} {V : Nat → Int} {t : Int} (h : Parted n lo hi V t) (W : Nat → Int) : leS n V W t = sm hi W := by
  obtain ⟨h1, h2, a, b, c⟩ := h
  unfold leS
  rw [← sm_head W h2]
  apply sm_congr
  intro j hj
  by_cases e : j < hi
  · rw [if_pos e, if_pos]
    by_cases e2 : j < lo
    · have := a j e2; omega
    · rw [b j (by omega) e]; omega
  · rw [if_neg e, if_neg]
    have := c j (by omega) hj; omega
theorem Parted.su {n lo hi : Nat} {V : Nat → Int} {t : Int} (h : Parted n lo hi V t) (W : Nat → Int) : suS n V W t = sm lo (fun j => W j * V j) := by
  obtain ⟨h1, h2, a, b, c⟩ := h
  unfold suS
  rw [← sm_head (fun j => W j * V j) (show lo ≤ n by omega)]
  apply sm_congr
  intro j hj
  by_cases e : j < lo
  · rw [if_pos e, if_pos (a j e)]
  · rw [if_neg e, if_neg]
    by_cases e2 : j < hi
    · rw [b j (by omega) e2]; omega
    · have := c j (by omega) hj; omega

-- What lies at or below x lies below every greater y.
theorem le_lt {n : Nat} {V W : Nat → Int} (hW : ∀ j, j < n → 0 ≤ W j) {x y : Int} (h : x < y) : leS n V W x ≤ ltS n V W y := by
  apply sm_mono
  intro j hj
  have := hW j hj
  by_cases e : V j ≤ x
  · rw [if_pos e, if_pos (by omega)]; exact Int.le_refl _
  · rw [if_neg e]
    split <;> omega

-- The r-th smallest is one.
theorem rth_one {n : Nat} {V W : Nat → Int} (hW : ∀ j, j < n → 0 ≤ W j) {r x y : Int} (h1 : ltS n V W x < r) (h2 : r ≤ leS n V W x) (h3 : ltS n V W y < r) (h4 : r ≤ leS n V W y) : x = y := by
  rcases Int.lt_trichotomy x y with h | h | h
  · have := le_lt (V := V) hW h; omega
  · exact h
  · have := le_lt (V := V) hW h; omega

-- Later ones are no smaller.
theorem rth_le {n : Nat} {V W : Nat → Int} (hW : ∀ j, j < n → 0 ≤ W j) {r r' x y : Int} (hr : r ≤ r') (h1 : ltS n V W x < r) (h4 : r' ≤ leS n V W y) : x ≤ y := by
  rcases Int.lt_or_le y x with h | h
  · have := le_lt (V := V) hW h; omega
  · exact h

-- What the r smallest sum to, the r-th being t.
def Fs (n : Nat) (V W : Nat → Int) (r t : Int) : Int := suS n V W t + (r - ltS n V W t) * t

theorem le_split (n : Nat) (V W : Nat → Int) (x : Int) : leS n V W x = ltS n V W x + sm n (fun j => if V j = x then W j else 0) := by
  unfold leS ltS
  rw [← sm_add]
  apply sm_congr
  intro j _
  by_cases h1 : V j < x
  · rw [if_pos h1, if_pos (by omega), if_neg (by omega)]; omega
  · by_cases h2 : V j = x
    · rw [if_neg h1, if_pos (by omega), if_pos h2]; omega
    · rw [if_neg h1, if_neg (by omega), if_neg h2]; rfl

theorem sm_mul (n : Nat) (F : Nat → Int) (c : Int) : sm n (fun j => F j * c) = sm n F * c := by
  induction n with
  | zero => simp [sm]
  | succ n ih => rw [sm_succ, sm_succ, ih, Int.add_mul]

-- The next copy adds just the next value.
theorem step_adds {n : Nat} {V W : Nat → Int} (hW : ∀ j, j < n → 0 ≤ W j) {r x y : Int} (h1 : ltS n V W x < r) (h2 : r ≤ leS n V W x) (h3 : ltS n V W y < r + 1) (h4 : r + 1 ≤ leS n V W y) : Fs n V W (r + 1) y = Fs n V W r x + y := by
  by_cases e : r + 1 ≤ leS n V W x
  · have hxy : x = y := rth_one hW (by omega) e h3 h4
    subst hxy
    unfold Fs
    have : (r + 1 - ltS n V W x) = (r - ltS n V W x) + 1 := by omega
    rw [this, Int.add_mul]
    omega
  · have hxy : x < y := by
      have h := rth_le (V := V) hW (show r ≤ r + 1 by omega) h1 h4
      rcases Int.lt_or_le x y with h' | h'
      · exact h'
      · have : x = y := by omega
        subst this; omega
    have hle := le_lt (V := V) hW hxy
    have hr : leS n V W x = r := by omega
    have hy : ltS n V W y = r := by omega
    -- between x and y nothing counts
    have hzero : ∀ j, j < n → (if x < V j ∧ V j < y then W j else 0) = 0 := by
      apply sm_eq_zero
      · intro j hj; have := hW j hj; split <;> omega
      · have hs : ltS n V W y = leS n V W x + sm n (fun j => if x < V j ∧ V j < y then W j else 0) := by
          unfold leS ltS
          rw [← sm_add]
          apply sm_congr
          intro j _
          by_cases a : V j < y
          · by_cases b : V j ≤ x
            · rw [if_pos a, if_pos b, if_neg (by omega)]; omega
            · rw [if_pos a, if_neg b, if_pos (by omega)]; omega
          · rw [if_neg a, if_neg (by omega), if_neg (by omega)]; rfl
        omega
    have hsu : suS n V W y = suS n V W x + sm n (fun j => (if V j = x then W j else 0) * x) := by
      unfold suS
      rw [← sm_add]
      apply sm_congr
      intro j hj
      have hz := hzero j hj
      by_cases a : V j < x
      · rw [if_pos (by omega), if_pos a, if_neg (by omega)]; omega
      · by_cases b : V j = x
        · rw [if_pos (by omega), if_neg a, if_pos b, b]; omega
        · rw [if_neg a, if_neg b]
          by_cases c : V j < y
          · rw [if_pos (by omega)] at hz
            rw [if_pos c, hz]; omega
          · rw [if_neg c]; omega
    rw [sm_mul] at hsu
    have hsp := le_split n V W x
    unfold Fs
    rw [hsu, hy]
    have e1 : r - ltS n V W x = sm n (fun j => if V j = x then W j else 0) := by omega
    rw [e1]
    have e2 : r + 1 - r = 1 := by omega
    rw [e2]
    omega

-- The r-th smallest is a value that counts.
theorem rth_there {n : Nat} {V W : Nat → Int} (hW : ∀ j, j < n → 0 ≤ W j) {r x : Int} (h1 : ltS n V W x < r) (h2 : r ≤ leS n V W x) : ∃ j, j < n ∧ 0 < W j ∧ V j = x := by
  have hsp := le_split n V W x
  obtain ⟨j, hj, h⟩ := sm_pos (n := n) (F := fun j => if V j = x then W j else 0) (fun j hj => by have := hW j hj; split <;> omega) (by omega)
  by_cases e : V j = x
  · rw [if_pos e] at h; exact ⟨j, hj, h, e⟩
  · rw [if_neg e] at h; omega

end Go.Proofs.Qxb6603801a
