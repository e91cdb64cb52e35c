/-
  Seat b6604526a: (*idPrefix).matches.
-/
import Derived.Test.Qxb6604526aCompare
namespace Go.Proofs.Qxb6604526a
open Go.RowKit

theorem Row.short {w : World} {a : Option Addr} {n m : Nat} {f : Nat → Int} (h : Row w a n f) (hm : m ≤ n) : Row w a m f := fun j hj => h j (by omega)

/-- Do the first d digits match? -/
def mat (f P : Nat → Int) (d : Nat) : Bool := decide (cmpN (nib f) (nib P) d = 0)

theorem mat_yes {f P : Nat → Int} {d : Nat} (h : cmpN f P (d / 2) = 0) (h2 : d % 2 = 0 ∨ f (d / 2) / 16 = P (d / 2) / 16) : mat f P d = true := decide_eq_true (match_iff.2 ⟨h, h2⟩)
theorem mat_no1 {f P : Nat → Int} {d : Nat} (h : ¬ cmpN f P (d / 2) = 0) : mat f P d = false := decide_eq_false (fun h' => h (match_iff.1 h').1)
theorem mat_no2 {f P : Nat → Int} {d : Nat} (h : d % 2 = 1) (h2 : ¬ f (d / 2) / 16 = P (d / 2) / 16) : mat f P d = false := decide_eq_false (fun h' => by
  rcases (match_iff.1 h').2 with e | e
  · omega
  · exact h2 e)

set_option maxHeartbeats 2000000 in
theorem matches_some (ad : Addr) (n c g d : Nat) (f P : Nat → Int) (w : World) (hx : Row w (some ad) n f) (hp : Row w (some ⟨g, 0, none⟩) 32 P) (hg : w.cell? ⟨g, 32, none⟩ = some (.int .i64 d)) (hd : d ≤ 64) (hdn : (d + 1) / 2 ≤ n) (hnc : n ≤ c) :
    Calls Try.prog 46 #[.pointer (some ⟨g, 0, none⟩), .slice (some ad) n c] w fun e w' => e = .returned (.bool (mat f P d)) ∧ ∃ q, w' = w.drewN q := by
  have C : ∀ m, Calls Try.prog 49 #[.slice (some ad) (d / 2) c, .slice (some ⟨g, 0, none⟩) (d / 2) 32] (w.drewN m) fun e w' => e = .returned (.bool (decide (cmpN f P (d / 2) = 0))) ∧ w' = w.drewN m :=
    fun m => equal_any (some ad) (some ⟨g, 0, none⟩) (d / 2) c 32 f P (w.drewN m) ((hx.short (by omega)).drewN m) ((hp.short (by omega)).drewN m)
  have i0 : (0 : Int) ≤ (d : Int) / 2 := by omega
  have i1 : (d : Int) / 2 ≤ 32 := by omega
  have i2 : (d : Int) / 2 ≤ c := by omega
  have i3 : (d : Int) / 2 ≤ n := by omega
  by_cases h1 : cmpN f P (d / 2) = 0
  · have hd1 : decide (cmpN f P (d / 2) = 0) = true := decide_eq_true h1
    rw [hd1] at C
    by_cases h2 : d % 2 = 0
    · have M : Hid (mat f P d = true) := mat_yes h1 (Or.inl h2)
      have hz : (d : Int) % 2 = 0 := by omega
      have hz2 : ((d : Int) % 2 == 0) = true := by simp [hz]
      clear h1 hd1 hx hp hz
      go_enter Try.func46, Try.ntmps46
      go_wp2
      go_quiet ((go_at_call 49; exact Calls.quiet_of_same (C _)))
      go_wp2
      go_quiet (fail)
      go_wp2
      go_ret
      exact ⟨by rw [M.out]; rfl, dq1 (dq1 ⟨0, rfl⟩ _) _⟩
    · obtain ⟨b, o, e, c1, d1, d2⟩ := hx (d / 2) (by omega)
      simp only [Option.some.injEq] at e
      subst e
      have ⟨c2, d3, d4⟩ := hp.lit (j := d / 2) (by omega)
      rw [Nat.zero_add] at c2
      have hz : (d : Int) % 2 = 1 := by omega
      have hz2 : ((d : Int) % 2 == 0) = false := by simp [hz]
      have j1 : (d : Int) / 2 < 32 := by omega
      have j2 : (d : Int) / 2 < n := by omega
      have M : Hid ((f (d / 2) / 16 = P (d / 2) / 16 → mat f P d = true) ∧ (¬ f (d / 2) / 16 = P (d / 2) / 16 → mat f P d = false)) := ⟨fun h => mat_yes h1 (Or.inr h), fun h => mat_no2 (by omega) h⟩
      clear h1 hd1 hx hp hz
      generalize f (d / 2) = x at *
      generalize P (d / 2) = y at *
      go_enter Try.func46, Try.ntmps46
      go_wp2
      go_quiet ((go_at_call 49; exact Calls.quiet_of_same (C _)))
      go_wp2
      go_quiet (fail)
      go_wp2
      go_ret
      refine ⟨?_, dq1 (dq1 ⟨0, rfl⟩ _) _⟩
      by_cases e : x / 16 = y / 16
      · rw [M.out.1 e]
        simp [e]
      · rw [M.out.2 e]
        simp [e]
  · have hd1 : decide (cmpN f P (d / 2) = 0) = false := decide_eq_false h1
    rw [hd1] at C
    have M : Hid (mat f P d = false) := mat_no1 h1
    clear h1 hd1 hx hp
    go_enter Try.func46, Try.ntmps46
    go_wp2
    go_quiet ((go_at_call 49; exact Calls.quiet_of_same (C _)))
    go_wp2
    go_ret
    exact ⟨by rw [M.out]; rfl, dq1 ⟨0, rfl⟩ _⟩

theorem matches_none (c g : Nat) (f P : Nat → Int) (w : World) (hp : Row w (some ⟨g, 0, none⟩) 32 P) (hg : w.cell? ⟨g, 32, none⟩ = some (.int .i64 0)) :
    Calls Try.prog 46 #[.pointer (some ⟨g, 0, none⟩), .slice none 0 c] w fun e w' => e = .returned (.bool (mat f P 0)) ∧ ∃ q, w' = w.drewN q := by
  have C : ∀ m, Calls Try.prog 49 #[.slice none 0 c, .slice (some ⟨g, 0, none⟩) 0 32] (w.drewN m) fun e w' => e = .returned (.bool true) ∧ w' = w.drewN m := fun m => by
    have := equal_any none (some ⟨g, 0, none⟩) 0 c 32 f P (w.drewN m) (fun j hj => by omega) ((hp.short (by omega)).drewN m)
    rwa [decide_eq_true (cmpN_zero f P)] at this
  have M : Hid (mat f P 0 = true) := mat_yes rfl (Or.inl rfl)
  clear hp
  go_enter Try.func46, Try.ntmps46
  go_wp2
  go_quiet ((go_at_call 49; exact Calls.quiet_of_same (C _)))
  go_wp2
  go_quiet (fail)
  go_wp2
  go_ret
  exact ⟨by rw [M.out]; rfl, dq1 (dq1 ⟨0, rfl⟩ _) _⟩

theorem matches_any (a : Option Addr) (n c g d : Nat) (f P : Nat → Int) (w : World) (hx : Row w a n f) (hp : Row w (some ⟨g, 0, none⟩) 32 P) (hg : w.cell? ⟨g, 32, none⟩ = some (.int .i64 d)) (hd : d ≤ 64) (hdn : (d + 1) / 2 ≤ n) (hnc : n ≤ c) :
    Calls Try.prog 46 #[.pointer (some ⟨g, 0, none⟩), .slice a n c] w fun e w' => e = .returned (.bool (mat f P d)) ∧ ∃ q, w' = w.drewN q := by
  cases a with
  | none =>
    have h0 : n = 0 := by
      by_cases e : n = 0
      · exact e
      · obtain ⟨_, _, e', _⟩ := hx 0 (by omega)
        cases e'
    subst h0
    obtain rfl : d = 0 := by omega
    exact matches_none c g f P w hp hg
  | some ad => exact matches_some ad n c g d f P w hx hp hg hd hdn hnc

end Go.Proofs.Qxb6604526a
