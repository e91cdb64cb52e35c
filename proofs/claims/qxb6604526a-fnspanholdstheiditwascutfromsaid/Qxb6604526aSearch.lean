/-
  Seat b6604526a: the two closures, and sort.Search over the second.
-/
import Derived.Test.Qxb6604526aMatches
namespace Go.Proofs.Qxb6604526a
open Go.RowKit

theorem id33 (h n c b o i ni ci : Nat) (ai : Option Addr) (w : World) (ch : w.cell? ⟨h, 0, none⟩ = some (.slice (some ⟨b, o, none⟩) n c)) (ce : w.cell? ⟨b, o + i, none⟩ = some (.slice ai ni ci)) (hi : i < n) :
    Calls Try.prog 33 #[.int .i64 i, .pointer (some ⟨h, 0, none⟩)] w fun e w' => e = .returned (.slice ai ni ci) ∧ w' = w := by
  go_enter Try.func33, Try.ntmps33
  go_wp2
  go_ret
  exact ⟨rfl, rfl⟩

/-- At or above the key's bytes? -/
def atb (f : Nat → Int) (n : Nat) (P : Nat → Int) (kk : Nat) : Bool := decide (0 ≤ cmpB f n P kk)

theorem low45 (h n c b o i ni ci k l g kk : Nat) (ai : Option Addr) (f P : Nat → Int) (w : World) (ch : w.cell? ⟨h, 0, none⟩ = some (.slice (some ⟨b, o, none⟩) n c)) (ce : w.cell? ⟨b, o + i, none⟩ = some (.slice ai ni ci)) (hi : i < n)
    (ck : w.cell? ⟨k, 0, none⟩ = some (.func (.func 33) #[] #[.pointer (some ⟨h, 0, none⟩)])) (cl : w.cell? ⟨l, 0, none⟩ = some (.slice (some ⟨g, 0, none⟩) kk 32))
    (hx : Row w ai ni f) (hp : Row w (some ⟨g, 0, none⟩) kk P) :
    Calls Try.prog 45 #[.int .i64 i, .pointer (some ⟨k, 0, none⟩), .pointer (some ⟨l, 0, none⟩)] w fun e w' => e = .returned (.bool (atb f ni P kk)) ∧ ∃ q, w' = w.drewN q := by
  have C1 : ∀ m, Calls Try.prog 33 #[.int .i64 i, .pointer (some ⟨h, 0, none⟩)] (w.drewN m) fun e w' => e = .returned (.slice ai ni ci) ∧ w' = w.drewN m := fun m => id33 h n c b o i ni ci ai (w.drewN m) ch ce hi
  have C2 : ∀ m, Calls Try.prog 43 #[.slice ai ni ci, .slice (some ⟨g, 0, none⟩) kk 32] (w.drewN m) fun e w' => e = .returned (.int .i64 (cmpB f ni P kk)) ∧ w' = w.drewN m := fun m => compare_any ai _ ni ci kk 32 f P (w.drewN m) (hx.drewN m) (hp.drewN m)
  have A : Hid (atb f ni P kk = decide (0 ≤ cmpB f ni P kk)) := rfl
  clear hx hp
  generalize cmpB f ni P kk = v at C2 A
  go_enter Try.func45, Try.ntmps45
  go_wp2
  go_quiet ((first | (go_at_call 33; exact Calls.quiet_of_same (C1 _)) | (go_at_call 43; exact Calls.quiet_of_same (C2 _))))
  go_wp2
  go_ret
  exact ⟨by rw [A.out]; rfl, dq1 ⟨0, rfl⟩ _⟩

set_option maxHeartbeats 1000000 in
theorem search_any (n k l : Nat) (p : Nat → Bool) (w : World) (hn : n ≤ 65536)
    (hf : ∀ (m : Nat) (i : Nat), i < n → Calls Try.prog 45 #[.int .i64 i, .pointer (some ⟨k, 0, none⟩), .pointer (some ⟨l, 0, none⟩)] (w.drewN m) fun e w' => e = .returned (.bool (p i)) ∧ ∃ q, w' = (w.drewN m).drewN q)
    (hmono : ∀ a b, a ≤ b → b < n → p a = true → p b = true) :
    Calls Try.prog 44 #[.int .i64 n, .func (.func 45) #[] #[.pointer (some ⟨k, 0, none⟩), .pointer (some ⟨l, 0, none⟩)]] w fun e w' =>
      (∃ x : Nat, e = .returned (.int .i64 x) ∧ x ≤ n ∧ (∀ t, t < x → p t = false) ∧ ∀ t, x ≤ t → t < n → p t = true) ∧ ∃ q, w' = w.drewN q := by
  have HF : Hid (∀ (m : Nat) (i : Nat), i < n → Calls Try.prog 45 #[.int .i64 i, .pointer (some ⟨k, 0, none⟩), .pointer (some ⟨l, 0, none⟩)] (w.drewN m) fun e w' => e = .returned (.bool (p i)) ∧ ∃ q, w' = (w.drewN m).drewN q) := hf
  have M : Hid (∀ a b, a ≤ b → b < n → p a = true → p b = true) := hmono
  clear hf hmono
  go_enter Try.func44, Try.ntmps44
  go_wp2
  go_loopw [5, 6] (fun s5 s6 wr => ∃ lo hi q : Nat, s5 = .int .i64 lo ∧ s6 = .int .i64 hi ∧ lo ≤ hi ∧ hi ≤ n ∧ wr = w.drewN q ∧ Hid ((∀ t, t < lo → p t = false) ∧ (∀ t, hi ≤ t → t < n → p t = true)))
    (fun s5 s6 _ => (intOf s6).toNat - (intOf s5).toNat)
  case atStart => exact ⟨0, n, 0, rfl, rfl, Nat.zero_le _, Nat.le_refl _, rfl, (show Hid _ from ⟨fun t ht => absurd ht (Nat.not_lt_zero _), fun t h1 h2 => by omega⟩)⟩
  case round =>
    obtain ⟨lo, hi, q, rfl, rfl, hlh, hin, rfl, I⟩ := hrel
    by_cases hlt : lo < hi
    · have hc := HF.out q ((lo + hi) / 2) (by omega)
      rw [show (((lo + hi) / 2 : Nat) : Int) = ((lo : Int) + (hi : Int)) / 2 by omega] at hc
      cases hp : p ((lo + hi) / 2) <;> rw [hp] at hc
      · have I2 : Hid ((∀ t, t < (lo + hi) / 2 + 1 → p t = false) ∧ (∀ t, hi ≤ t → t < n → p t = true)) := ⟨fun t ht => (by
            cases h : p t with
            | false => rfl
            | true => have := M.out t ((lo + hi) / 2) (by omega) (by omega) h; rw [hp] at this; cases this), I.out.2⟩
        clear hp
        go_wp2_with (go_at_call 45; refine hc.mono ?_; rintro e w' ⟨rfl, nq, rfl⟩)
        go_roundw
        case rel => exact ⟨(lo + hi) / 2 + 1, hi, q + nq, by rw [show ((lo : Int) + (hi : Int)) / 2 + 1 = (((lo + hi) / 2 + 1 : Nat) : Int) by omega], rfl, by omega, hin, rfl, I2⟩
        case measure => simp [intOf]; omega
      · have I2 : Hid ((∀ t, t < lo → p t = false) ∧ (∀ t, (lo + hi) / 2 ≤ t → t < n → p t = true)) := ⟨I.out.1, fun t ht htn => M.out ((lo + hi) / 2) t ht htn hp⟩
        clear hp
        go_wp2_with (go_at_call 45; refine hc.mono ?_; rintro e w' ⟨rfl, nq, rfl⟩)
        go_roundw
        case rel => exact ⟨lo, (lo + hi) / 2, q + nq, rfl, by rw [show ((lo : Int) + (hi : Int)) / 2 = (((lo + hi) / 2 : Nat) : Int) by omega], by omega, by omega, rfl, I2⟩
        case measure => simp [intOf]; omega
    · obtain rfl : lo = hi := by omega
      go_wp2
      go_ret
      exact ⟨⟨lo, rfl, hin, I.out.1, I.out.2⟩, _, rfl⟩

end Go.Proofs.Qxb6604526a
