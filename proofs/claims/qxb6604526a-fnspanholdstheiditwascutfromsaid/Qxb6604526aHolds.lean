/-
  Seat b6604526a: plain mathematics of FnSpanHoldsTheIDItWasCutFrom: no Go in sight.
-/
import Derived.Test.Qxb6604526aPrefix
namespace Go.Proofs.Qxb6604526a

/-- How the t-th row's first d digits stand to the k-th's. -/
def dg (X : Nat → Nat → Int) (k d t : Nat) : Int := cmpN (nib (X t)) (nib (X k)) d

theorem dg_self (X : Nat → Nat → Int) (k d : Nat) : dg X k d k = 0 := (cmpN_eq_iff _ _ _).2 fun _ _ => rfl
theorem dg_keep {X : Nat → Nat → Int} {k d t : Nat} (h : dg X k d t ≠ 0) : dg X k (d + 1) t = dg X k d t := cmpN_keep1 h

/-- What the block of the k-th row's first d digits is. -/
def Block (n : Nat) (X : Nat → Nat → Int) (k d f x : Nat) : Prop :=
  f ≤ x ∧ x ≤ n ∧ (∀ t, t < f → dg X k d t < 0) ∧ (∀ t, f ≤ t → t < x → dg X k d t = 0) ∧ (∀ t, x ≤ t → t < n → 0 < dg X k d t)

theorem block_of {n : Nat} {len : Nat → Nat} {X : Nat → Nat → Int} {k d : Nat} (hs : ∀ i, i + 1 < n → cmpB (X i) (len i) (X (i + 1)) (len (i + 1)) ≤ 0) (hl : ∀ i, i < n → (d + 1) / 2 ≤ len i)
    {f x : Nat} (S : SpanIs n len X (pre (X k) d) d f x) : Block n X k d f x := by
  have D := span_digits hs hl (pre_odd (X k) d) S
  have e : ∀ t, hd X (pre (X k) d) d t = dg X k d t := fun t => hd_pre X k d t
  simp only [e] at D
  exact D

theorem Block.holds {n : Nat} {X : Nat → Nat → Int} {k d f x : Nat} (B : Block n X k d f x) (hk : k < n) : f ≤ k ∧ k < x := by
  obtain ⟨b1, b2, b3, b4, b5⟩ := B
  have h0 := dg_self X k d
  constructor
  · by_cases e : f ≤ k
    · exact e
    · have := b3 k (by omega); omega
  · by_cases e : k < x
    · exact e
    · have := b5 k (by omega) hk; omega

theorem Block.next {n : Nat} {X : Nat → Nat → Int} {k d f x f2 x2 : Nat} (B : Block n X k d f x) (B2 : Block n X k (d + 1) f2 x2) (hk : k < n) : f ≤ f2 ∧ x2 ≤ x := by
  have h1 := B.holds hk
  have h2 := B2.holds hk
  obtain ⟨b1, b2, b3, b4, b5⟩ := B
  obtain ⟨c1, c2, c3, c4, c5⟩ := B2
  constructor
  · by_cases e : f ≤ f2
    · exact e
    · have q1 := b3 f2 (by omega)
      have q2 := dg_keep (X := X) (k := k) (d := d) (t := f2) (by omega)
      have q3 := c4 f2 (Nat.le_refl _) (by omega)
      omega
  · by_cases e : x2 ≤ x
    · exact e
    · have q1 := b5 x (Nat.le_refl _) (by omega)
      have q2 := dg_keep (X := X) (k := k) (d := d) (t := x) (by omega)
      have q3 := c4 x (by omega) (by omega)
      omega

theorem dg_range (X : Nat → Nat → Int) (k d t : Nat) : -1 ≤ dg X k d t ∧ dg X k d t ≤ 1 := by
  have := cmpN_range (nib (X t)) (nib (X k)) d
  unfold dg
  omega

end Go.Proofs.Qxb6604526a
