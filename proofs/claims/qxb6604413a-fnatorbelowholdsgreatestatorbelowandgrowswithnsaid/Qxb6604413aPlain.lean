/-
  Seat b6604413a: plain mathematics: no Go in sight.
-/
namespace Go.Proofs.Qxb6604413a

/-- How many of the first n numbers are at or below x. -/
def cnt (zs : List Int) (x : Int) : Nat → Nat
  | 0 => 0
  | k + 1 => cnt zs x k + if zs.getD k 0 ≤ x then 1 else 0

theorem cnt_le (zs : List Int) (x : Int) (k : Nat) : cnt zs x k ≤ k := by
  induction k with
  | zero => exact Nat.le_refl _
  | succ k ih => simp only [cnt]; split <;> omega

theorem cnt_yes {zs : List Int} {x : Int} {k : Nat} (h : zs.getD k 0 ≤ x) : cnt zs x (k + 1) = cnt zs x k + 1 := by simp only [cnt, if_pos h]
theorem cnt_no {zs : List Int} {x : Int} {k : Nat} (h : ¬ zs.getD k 0 ≤ x) : cnt zs x (k + 1) = cnt zs x k := by simp only [cnt, if_neg h, Nat.add_zero]

theorem cnt_bound (zs : List Int) (x : Int) (n m : Nat) (h1 : ∀ t, t < m → zs.getD t 0 ≤ x) (h2 : ∀ t, m ≤ t → t < n → x < zs.getD t 0) : ∀ k, k ≤ n → cnt zs x k = min k m := by
  intro k
  induction k with
  | zero => intro _; simp [cnt]
  | succ k ih =>
    intro hk
    have := ih (by omega)
    by_cases hm : k < m
    · rw [cnt_yes (h1 k hm)]; omega
    · rw [cnt_no (by have := h2 k (by omega) (by omega); omega)]; omega

/-- Rising step by step is rising. -/
theorem rise (zs : List Int) (n : Nat) (h : ∀ t, t + 1 < n → zs.getD t 0 < zs.getD (t + 1) 0) (a : Nat) : ∀ d, 0 < d → a + d < n → zs.getD a 0 < zs.getD (a + d) 0 := by
  intro d
  induction d with
  | zero => intro h0; omega
  | succ d ih =>
    intro _ hn
    have h1 := h (a + d) (by omega)
    by_cases hd : d = 0
    · subst hd; simpa using h1
    · have h2 := ih (by omega) (by omega)
      have e : a + (d + 1) = a + d + 1 := by omega
      rw [e]; omega

theorem rise_le (zs : List Int) (n : Nat) (h : ∀ t, t + 1 < n → zs.getD t 0 < zs.getD (t + 1) 0) (a b : Nat) (hab : a ≤ b) (hb : b < n) : zs.getD a 0 ≤ zs.getD b 0 := by
  by_cases e : a = b
  · subst e; exact Int.le_refl _
  · have := rise zs n h a (b - a) (by omega) (by omega)
    rw [show a + (b - a) = b by omega] at this
    omega

theorem keep (zs : List Int) (n : Nat) (h : ∀ t, t + 1 < n → zs.getD t 0 ≤ zs.getD (t + 1) 0) (a : Nat) : ∀ d, a + d < n → zs.getD a 0 ≤ zs.getD (a + d) 0 := by
  intro d
  induction d with
  | zero => intro _; exact Int.le_refl _
  | succ d ih =>
    intro hn
    have h1 := h (a + d) (by omega)
    have h2 := ih (by omega)
    have e : a + (d + 1) = a + d + 1 := by omega
    rw [e]; omega

theorem keep_le (zs : List Int) (n : Nat) (h : ∀ t, t + 1 < n → zs.getD t 0 ≤ zs.getD (t + 1) 0) (a b : Nat) (hab : a ≤ b) (hb : b < n) : zs.getD a 0 ≤ zs.getD b 0 := by
  have := keep zs n h a (b - a) (by omega)
  rwa [show a + (b - a) = b by omega] at this

end Go.Proofs.Qxb6604413a
