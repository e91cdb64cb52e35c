/-
  Seat b6604526a: plain mathematics: no Go in sight. Numbers in a row are said by a function of the index.
-/
namespace Go.Proofs.Qxb6604526a

/-- The sign of the difference. -/
def sg (a b : Int) : Int := if a < b then -1 else if b < a then 1 else 0

theorem sg_lt {a b : Int} (h : a < b) : sg a b = -1 := if_pos h
theorem sg_gt {a b : Int} (h : b < a) : sg a b = 1 := by unfold sg; rw [if_neg (by omega), if_pos h]
theorem sg_eq {a b : Int} (h : a = b) : sg a b = 0 := by unfold sg; rw [if_neg (by omega), if_neg (by omega)]
theorem sg_cases (a b : Int) : (a < b ∧ sg a b = -1) ∨ (a = b ∧ sg a b = 0) ∨ (b < a ∧ sg a b = 1) := by unfold sg; repeat' split <;> omega

/-- How two rows compare within their first n places. -/
def cmpN (f g : Nat → Int) : Nat → Int
  | 0 => 0
  | n + 1 => if cmpN f g n = 0 then sg (f n) (g n) else cmpN f g n

theorem cmpN_zero (f g : Nat → Int) : cmpN f g 0 = 0 := rfl
theorem cmpN_go {f g : Nat → Int} {n : Nat} (h : cmpN f g n = 0) : cmpN f g (n + 1) = sg (f n) (g n) := by simp only [cmpN, if_pos h]
theorem cmpN_keep1 {f g : Nat → Int} {n : Nat} (h : cmpN f g n ≠ 0) : cmpN f g (n + 1) = cmpN f g n := by simp only [cmpN, if_neg h]

theorem cmpN_range (f g : Nat → Int) (n : Nat) : cmpN f g n = -1 ∨ cmpN f g n = 0 ∨ cmpN f g n = 1 := by
  induction n with
  | zero => right; left; rfl
  | succ n ih =>
    by_cases h : cmpN f g n = 0
    · rw [cmpN_go h]; rcases sg_cases (f n) (g n) with ⟨_, h⟩ | ⟨_, h⟩ | ⟨_, h⟩ <;> rw [h] <;> simp
    · rw [cmpN_keep1 h]; exact ih

theorem cmpN_keep {f g : Nat → Int} {n : Nat} (h : cmpN f g n ≠ 0) : ∀ m, n ≤ m → cmpN f g m = cmpN f g n := by
  intro m hm
  induction m with
  | zero => obtain rfl : n = 0 := by omega
            rfl
  | succ m ih =>
    by_cases e : n = m + 1
    · rw [e]
    · have := ih (by omega)
      rw [cmpN_keep1 (by rw [this]; exact h), this]

theorem cmpN_stop {f g : Nat → Int} {n m : Nat} (h0 : cmpN f g n = 0) (h : f n ≠ g n) (hm : n < m) : cmpN f g m = sg (f n) (g n) := by
  have e := cmpN_go h0
  have hne : cmpN f g (n + 1) ≠ 0 := by
    rw [e]
    rcases sg_cases (f n) (g n) with ⟨_, h'⟩ | ⟨h', _⟩ | ⟨_, h'⟩
    · rw [h']; decide
    · exact absurd h' h
    · rw [h']; decide
  rw [cmpN_keep hne m (by omega), e]

theorem cmpN_same {f g : Nat → Int} {n : Nat} (h0 : cmpN f g n = 0) (h : f n = g n) : cmpN f g (n + 1) = 0 := by rw [cmpN_go h0, sg_eq h]

theorem cmpN_prefix {f g : Nat → Int} {n m : Nat} (hm : m ≤ n) (h : cmpN f g n = 0) : cmpN f g m = 0 := by
  by_cases e : cmpN f g m = 0
  · exact e
  · rw [cmpN_keep e n hm] at h; exact absurd h e

/-- Zero: all places are alike. -/
theorem cmpN_eq_iff (f g : Nat → Int) (n : Nat) : cmpN f g n = 0 ↔ ∀ j, j < n → f j = g j := by
  induction n with
  | zero => simp [cmpN]
  | succ n ih =>
    constructor
    · intro h j hj
      have h0 := cmpN_prefix (Nat.le_succ n) h
      by_cases e : j = n
      · subst e
        rw [cmpN_go h0] at h
        rcases sg_cases (f j) (g j) with ⟨_, h'⟩ | ⟨h', _⟩ | ⟨_, h'⟩
        · rw [h'] at h; omega
        · exact h'
        · rw [h'] at h; omega
      · exact ih.1 h0 j (by omega)
    · intro h
      exact cmpN_same (ih.2 fun j hj => h j (by omega)) (h n (by omega))

theorem cmpN_congr {f g f' g' : Nat → Int} {n : Nat} (hf : ∀ j, j < n → f j = f' j) (hg : ∀ j, j < n → g j = g' j) : cmpN f g n = cmpN f' g' n := by
  induction n with
  | zero => rfl
  | succ n ih =>
    have e := ih (fun j hj => hf j (by omega)) (fun j hj => hg j (by omega))
    simp only [cmpN, e, hf n (by omega), hg n (by omega)]

theorem cmpN_swap (f g : Nat → Int) (n : Nat) : cmpN g f n = -cmpN f g n := by
  induction n with
  | zero => rfl
  | succ n ih =>
    by_cases h : cmpN f g n = 0
    · rw [cmpN_go h, cmpN_go (by rw [ih, h]; rfl)]
      rcases sg_cases (f n) (g n) with ⟨a, h'⟩ | ⟨a, h'⟩ | ⟨a, h'⟩
      · rw [h', sg_gt a]; rfl
      · rw [h', sg_eq a.symm]; rfl
      · rw [h', sg_lt a]
    · rw [cmpN_keep1 h, cmpN_keep1 (by rw [ih]; omega), ih]

/-- What is below stays below, seen from any third row. -/
theorem cmpN_mono (a b p : Nat → Int) (n : Nat) :
    (cmpN a b n < 0 → cmpN a p n ≤ cmpN b p n ∧ (cmpN a p n < 0 ∨ 0 < cmpN b p n)) ∧ (cmpN a b n = 0 → cmpN a p n = cmpN b p n) := by
  induction n with
  | zero => simp [cmpN]
  | succ n ih =>
    have r1 := cmpN_range a b n
    have r2 := cmpN_range a p n
    have r3 := cmpN_range b p n
    have s1 := sg_cases (a n) (b n)
    have s2 := sg_cases (a n) (p n)
    have s3 := sg_cases (b n) (p n)
    simp only [cmpN]
    repeat' split
    all_goals omega

theorem cmpN_mono_le {a b : Nat → Int} {n : Nat} (h : cmpN a b n ≤ 0) (p : Nat → Int) : cmpN a p n ≤ cmpN b p n := by
  have := cmpN_mono a b p n
  omega

/-- The j-th hexadecimal digit of a row of bytes. -/
def nib (f : Nat → Int) (j : Nat) : Int := if j % 2 = 0 then f (j / 2) / 16 else f (j / 2) % 16

theorem nib_even {f : Nat → Int} {j : Nat} (h : j % 2 = 0) : nib f j = f (j / 2) / 16 := if_pos h
theorem nib_odd {f : Nat → Int} {j : Nat} (h : ¬ j % 2 = 0) : nib f j = f (j / 2) % 16 := if_neg h

/-- The rows' first 2k digits compare as their first k bytes do. -/
theorem cmpN_nib (f g : Nat → Int) (k : Nat) : cmpN (nib f) (nib g) (2 * k) = cmpN f g k := by
  induction k with
  | zero => rfl
  | succ k ih =>
    have e0 : nib f (2 * k) = f k / 16 := by rw [nib_even (by omega), show 2 * k / 2 = k by omega]
    have e1 : nib g (2 * k) = g k / 16 := by rw [nib_even (by omega), show 2 * k / 2 = k by omega]
    have e2 : nib f (2 * k + 1) = f k % 16 := by rw [nib_odd (by omega), show (2 * k + 1) / 2 = k by omega]
    have e3 : nib g (2 * k + 1) = g k % 16 := by rw [nib_odd (by omega), show (2 * k + 1) / 2 = k by omega]
    have s1 := sg_cases (f k / 16) (g k / 16)
    have s2 := sg_cases (f k % 16) (g k % 16)
    have s3 := sg_cases (f k) (g k)
    rw [show 2 * (k + 1) = 2 * k + 1 + 1 by omega]
    simp only [cmpN, e0, e1, e2, e3, ih]
    repeat' split
    all_goals omega

/-- How two rows of bytes compare: as bytes.Compare says. -/
def cmpB (f : Nat → Int) (n : Nat) (g : Nat → Int) (m : Nat) : Int := if cmpN f g (min n m) = 0 then sg n m else cmpN f g (min n m)

/-- Below a key of k bytes: as the first k bytes say. -/
theorem cmpB_prefix {f g : Nat → Int} {n k : Nat} (h : k ≤ n) : (cmpB f n g k < 0 ↔ cmpN f g k < 0) := by
  unfold cmpB
  rw [show min n k = k by omega]
  have := cmpN_range f g k
  have := sg_cases (n : Int) (k : Int)
  split <;> omega

theorem cmpB_le {f g : Nat → Int} {n m k : Nat} (h : cmpB f n g m ≤ 0) (hn : k ≤ n) (hm : k ≤ m) : cmpN f g k ≤ 0 := by
  by_cases e : cmpN f g k = 0
  · omega
  · have := cmpN_keep e (min n m) (by omega)
    unfold cmpB at h
    rw [if_neg (by rw [this]; exact e), this] at h
    exact h

/-- SORTED ROWS: their first d digits rise, seen from any row. -/
theorem digits_rise {f g : Nat → Int} {n m d : Nat} (h : cmpB f n g m ≤ 0) (hn : (d + 1) / 2 ≤ n) (hm : (d + 1) / 2 ≤ m) (p : Nat → Int) :
    cmpN (nib f) (nib p) d ≤ cmpN (nib g) (nib p) d := by
  refine cmpN_mono_le ?_ _
  have h1 := cmpB_le h hn hm
  rw [← cmpN_nib] at h1
  by_cases e : cmpN (nib f) (nib g) d = 0
  · omega
  · have := cmpN_keep e (2 * ((d + 1) / 2)) (by omega)
    omega

/-- Below the key's bytes: its digits are below. (An odd last digit's byte has a zero low half.) -/
theorem below_iff {f p : Nat → Int} {n d : Nat} (hn : (d + 1) / 2 ≤ n) (hp : d % 2 = 1 → p (d / 2) % 16 = 0) : (cmpB f n p ((d + 1) / 2) < 0 ↔ cmpN (nib f) (nib p) d < 0) := by
  rw [cmpB_prefix hn]
  by_cases hd : d % 2 = 1
  · have hz := hp hd
    have e : d = 2 * (d / 2) + 1 := by omega
    have e2 : (d + 1) / 2 = d / 2 + 1 := by omega
    generalize d / 2 = k at *
    rw [e2, e]
    have e0 : nib f (2 * k) = f k / 16 := by rw [nib_even (by omega), show 2 * k / 2 = k by omega]
    have e1 : nib p (2 * k) = p k / 16 := by rw [nib_even (by omega), show 2 * k / 2 = k by omega]
    have s1 := sg_cases (f k / 16) (p k / 16)
    have s3 := sg_cases (f k) (p k)
    simp only [cmpN, e0, e1, cmpN_nib]
    split <;> omega
  · have e : d = 2 * ((d + 1) / 2) := by omega
    rw [← cmpN_nib, ← e]

/-- The digits match: the whole bytes do, and the odd last digit. -/
theorem match_iff {f p : Nat → Int} {d : Nat} : cmpN (nib f) (nib p) d = 0 ↔ cmpN f p (d / 2) = 0 ∧ (d % 2 = 0 ∨ f (d / 2) / 16 = p (d / 2) / 16) := by
  by_cases hd : d % 2 = 1
  · have e : d = 2 * (d / 2) + 1 := by omega
    generalize hk : d / 2 = k at *
    rw [e]
    have e0 : nib f (2 * k) = f k / 16 := by rw [nib_even (by omega), show 2 * k / 2 = k by omega]
    have e1 : nib p (2 * k) = p k / 16 := by rw [nib_even (by omega), show 2 * k / 2 = k by omega]
    have s1 := sg_cases (f k / 16) (p k / 16)
    have r := cmpN_range f p k
    simp only [cmpN, e0, e1, cmpN_nib]
    split <;> omega
  · have e : d = 2 * (d / 2) := by omega
    constructor
    · intro h
      rw [e, cmpN_nib] at h
      exact ⟨h, Or.inl (by omega)⟩
    · intro h
      rw [e, cmpN_nib]
      exact h.1

end Go.Proofs.Qxb6604526a
