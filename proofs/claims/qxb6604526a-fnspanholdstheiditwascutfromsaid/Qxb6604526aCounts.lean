/-
  Seat b6604526a: plain mathematics of a span over sorted rows: no Go in sight.
-/
import Derived.Test.Qxb6604526aZZSpan
namespace Go.Proofs.Qxb6604526a

def cntLt (h : Nat → Int) : Nat → Nat
  | 0 => 0
  | k + 1 => cntLt h k + if h k < 0 then 1 else 0
def cntEq (h : Nat → Int) : Nat → Nat
  | 0 => 0
  | k + 1 => cntEq h k + if h k = 0 then 1 else 0

theorem cntLt_le (h : Nat → Int) (k : Nat) : cntLt h k ≤ k := by
  induction k with
  | zero => exact Nat.le_refl _
  | succ k ih => simp only [cntLt]; split <;> omega
theorem cntEq_le (h : Nat → Int) (k : Nat) : cntEq h k ≤ k := by
  induction k with
  | zero => exact Nat.le_refl _
  | succ k ih => simp only [cntEq]; split <;> omega

theorem cnt_lt {h : Nat → Int} {k : Nat} (e : h k < 0) : cntLt h (k + 1) = cntLt h k + 1 ∧ cntEq h (k + 1) = cntEq h k := by
  simp only [cntLt, cntEq, if_pos e, if_neg (show ¬ h k = 0 by omega), Nat.add_zero, and_self]
theorem cnt_eq {h : Nat → Int} {k : Nat} (e : h k = 0) : cntLt h (k + 1) = cntLt h k ∧ cntEq h (k + 1) = cntEq h k + 1 := by
  simp only [cntLt, cntEq, if_pos e, if_neg (show ¬ h k < 0 by omega), Nat.add_zero, and_self]
theorem cnt_gt {h : Nat → Int} {k : Nat} (e : 0 < h k) : cntLt h (k + 1) = cntLt h k ∧ cntEq h (k + 1) = cntEq h k := by
  simp only [cntLt, cntEq, if_neg (show ¬ h k < 0 by omega), if_neg (show ¬ h k = 0 by omega), Nat.add_zero, and_self]

theorem cnt_span (h : Nat → Int) (n f x : Nat) (hf : f ≤ x) (h1 : ∀ t, t < f → h t < 0) (h2 : ∀ t, f ≤ t → t < x → h t = 0) (h3 : ∀ t, x ≤ t → t < n → 0 < h t) :
    ∀ k, k ≤ n → cntLt h k = min k f ∧ cntEq h k = min k x - min k f := by
  intro k
  induction k with
  | zero => intro _; simp [cntLt, cntEq]
  | succ k ih =>
    intro hk
    have ⟨i1, i2⟩ := ih (by omega)
    by_cases a : k < f
    · have := cnt_lt (h1 k a); omega
    · by_cases b : k < x
      · have := cnt_eq (h2 k (by omega) b); omega
      · have := cnt_gt (h3 k (by omega) (by omega)); omega

/-- How the i-th row's first d digits stand to the key's. -/
def hd (X : Nat → Nat → Int) (P : Nat → Int) (d i : Nat) : Int := cmpN (nib (X i)) (nib P) d

theorem step_mono (h : Nat → Int) (n : Nat) (hs : ∀ i, i + 1 < n → h i ≤ h (i + 1)) (a : Nat) : ∀ e, a + e < n → h a ≤ h (a + e) := by
  intro e
  induction e with
  | zero => intro _; exact Int.le_refl _
  | succ e ih =>
    intro hn
    have h1 := hs (a + e) (by omega)
    have h2 := ih (by omega)
    rw [show a + (e + 1) = a + e + 1 by omega]
    omega

theorem hd_mono {n : Nat} {len : Nat → Nat} {X : Nat → Nat → Int} {d : Nat} (P : Nat → Int) (hs : ∀ i, i + 1 < n → cmpB (X i) (len i) (X (i + 1)) (len (i + 1)) ≤ 0) (hl : ∀ i, i < n → (d + 1) / 2 ≤ len i) (a b : Nat) (hab : a ≤ b) (hb : b < n) : hd X P d a ≤ hd X P d b := by
  have := step_mono (hd X P d) n (fun i hi => digits_rise (hs i hi) (hl i (by omega)) (hl (i + 1) hi) P) a (b - a) (by omega)
  rwa [show a + (b - a) = b by omega] at this

theorem atb_iff {f P : Nat → Int} {n d : Nat} (hn : (d + 1) / 2 ≤ n) (hp : d % 2 = 1 → P (d / 2) % 16 = 0) : atb f n P ((d + 1) / 2) = true ↔ 0 ≤ cmpN (nib f) (nib P) d := by
  have := below_iff (f := f) (p := P) hn hp
  unfold atb
  rw [decide_eq_true_eq]
  omega

theorem atb_mono {n : Nat} {len : Nat → Nat} {X : Nat → Nat → Int} {d : Nat} {P : Nat → Int} (hs : ∀ i, i + 1 < n → cmpB (X i) (len i) (X (i + 1)) (len (i + 1)) ≤ 0) (hl : ∀ i, i < n → (d + 1) / 2 ≤ len i) (hp : d % 2 = 1 → P (d / 2) % 16 = 0) :
    ∀ i j, i ≤ j → j < n → atb (X i) (len i) P ((d + 1) / 2) = true → atb (X j) (len j) P ((d + 1) / 2) = true := fun i j hij hj h => by
  have m := hd_mono P hs hl i j hij hj
  rw [atb_iff (hl i (by omega)) hp] at h
  rw [atb_iff (hl j hj) hp]
  unfold hd at m
  omega

/-- A span, said by the digits. -/
theorem span_digits {n : Nat} {len : Nat → Nat} {X : Nat → Nat → Int} {d : Nat} {P : Nat → Int} (hs : ∀ i, i + 1 < n → cmpB (X i) (len i) (X (i + 1)) (len (i + 1)) ≤ 0) (hl : ∀ i, i < n → (d + 1) / 2 ≤ len i) (hp : d % 2 = 1 → P (d / 2) % 16 = 0)
    {f x : Nat} (S : SpanIs n len X P d f x) : f ≤ x ∧ x ≤ n ∧ (∀ t, t < f → hd X P d t < 0) ∧ (∀ t, f ≤ t → t < x → hd X P d t = 0) ∧ (∀ t, x ≤ t → t < n → 0 < hd X P d t) := by
  obtain ⟨s1, s2, s3, s4, s5, s6⟩ := S
  refine ⟨s1, s2, fun t ht => ?_, fun t h1 h2 => ?_, fun t h1 h2 => ?_⟩
  · have a := s3 t ht
    have b := atb_iff (f := X t) (P := P) (hl t (by omega)) hp
    rw [a] at b
    unfold hd
    by_cases e : 0 ≤ cmpN (nib (X t)) (nib P) d
    · have := b.2 e; cases this
    · omega
  · exact of_decide_eq_true (s5 t h1 h2)
  · have e := s6 (by omega)
    have e2 : ¬ hd X P d x = 0 := of_decide_eq_false e
    have e3 := (atb_iff (f := X x) (P := P) (hl x (by omega)) hp).1 (s4 x s1 (by omega))
    have m := hd_mono P hs hl x t h1 h2
    unfold hd at *
    omega

end Go.Proofs.Qxb6604526a
