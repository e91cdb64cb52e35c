/-
  Seat b6604416a: the walks of FnLastTermClosedForm and FnLastTermKeptBySnapshot.
-/
import Derived.Test.Qxb6604416aBase
namespace Go.Proofs.Qxb6604416a
open Go.RowKit

theorem closed_walk (a : Option Addr) (n c : Nat) (s t : Int) (T : Nat → Int) (w : World) (hr : Row w a n T) (hn : n ≤ 9223372036854775807) (h0 : 0 ≤ s) (h1 : s ≤ 18446744073709551615) :
    Calls Try.prog 3 #[.int .u64 s, .int .u64 t, .slice a n c] w fun e w' => e = .returned (.bool true) ∧ Below w.heap.size w w' := by
  have R : Hid (Row w a n T) := hr
  clear hr
  by_cases h20 : n ≤ 1048576
  · have hd : decide (n ≤ 1048576) = true := decide_eq_true h20
    by_cases h16 : n ≤ 65536
    · go_enter Try.func3, Try.ntmps3
      go_wp2_with (go_at_call 5; refine (bytes5 _ _ _ _ _ _ hn).mono ?_; rintro e w' ⟨rfl, rfl⟩)
      refine (entries_any a n c T w R.out h16).mono ?_
      rintro e w1 ⟨rfl, hT, hb1⟩
      have C := log_any w.heap.size n s t T w1 h16 h0 h1 hT
      clear hT
      go_wp2_with fail
      refine C.mono ?_
      clear C
      rintro e w2 ⟨rfl, hb2⟩
      have hb3 : Below w.heap.size w w2 := hb1.trans (hb2.mono hb1.size)
      have C := model_any a n c s t T w2 (R.out.of_cells (cells_below hb3)) h16 h0 h1
      generalize lt s t n T = v at C ⊢
      go_wp2_with fail
      refine C.mono ?_
      clear C
      rintro e w3 ⟨rfl, rfl⟩
      have hv : (v == v) = true := by simp
      go_wp2
      go_ret
      exact ⟨rfl, hb3⟩
    · go_enter Try.func3, Try.ntmps3
      go_wp2_with (go_at_call 5; refine (bytes5 _ _ _ _ _ _ hn).mono ?_; rintro e w' ⟨rfl, rfl⟩)
      go_ret
      exact ⟨rfl, Below.refl _ _⟩
  · have hd : decide (n ≤ 1048576) = false := decide_eq_false h20
    go_enter Try.func3, Try.ntmps3
    go_wp2_with (go_at_call 5; refine (bytes5 _ _ _ _ _ _ hn).mono ?_; rintro e w' ⟨rfl, rfl⟩)
    go_ret
    exact ⟨rfl, Below.refl _ _⟩

theorem Row.cut {w : World} {b o n k : Nat} {T : Nat → Int} (h : Row w (some ⟨b, o, none⟩) n T) : Row w (some ⟨b, o + k, none⟩) (n - k) (fun j => T (k + j)) := by
  intro j hj
  obtain ⟨b', o', e, h1, h2⟩ := h (k + j) (by omega)
  simp only [Option.some.injEq, Addr.mk.injEq] at e
  obtain ⟨rfl, rfl, _⟩ := e
  exact ⟨b, o + k, rfl, by rw [Nat.add_assoc]; exact h1, h2⟩

theorem Row.gone {w : World} {b o n : Nat} {T : Nat → Int} (_h : Row w (some ⟨b, o, none⟩) n T) : Row w (some ⟨b, o, none⟩) 0 (fun j => T (n + j)) := fun j hj => by omega

theorem Row.lit {w : World} {b o n : Nat} {T : Nat → Int} (h : Row w (some ⟨b, o, none⟩) n T) {j : Nat} (hj : j < n) : w.cell? ⟨b, o + j, none⟩ = some (.int .u64 (T j)) := by
  obtain ⟨b', o', e, h1, h2⟩ := h j hj
  simp only [Option.some.injEq, Addr.mk.injEq] at e
  obtain ⟨rfl, rfl, _⟩ := e
  exact h1

theorem lt_cut {s t : Int} {n k : Nat} {T : Nat → Int} (hk : k < n) (h1 : s + n ≤ 18446744073709551615) : lt (s + k) t (n - k) (fun j => T (k + j)) = T (n - 1) := by
  rw [lt_in (by omega) (by omega)]
  show T (k + (n - k - 1)) = _
  congr 1
  omega

set_option maxHeartbeats 2000000 in
theorem kept_some (b o n c kn : Nat) (s t : Int) (T : Nat → Int) (w : World) (hr : Row w (some ⟨b, o, none⟩) n T) (hn : n ≤ 65536) (hnc : n ≤ c) (hc : c ≤ 9223372036854775807) (hpos : 0 < n) (hk : kn ≤ n) (h0 : 0 ≤ s) (h1 : s + n ≤ 18446744073709551615) :
    Calls Try.prog 4 #[.int .u64 s, .int .u64 t, .slice (some ⟨b, o, none⟩) n c, .int .i64 kn] w fun e w' => e = .returned (.bool true) ∧ Below w.heap.size w w' := by
  have R : Hid (Row w (some ⟨b, o, none⟩) n T) := hr
  have hd : decide (n ≤ 1048576) = true := decide_eq_true (by omega)
  have xn := hr.lit (j := n - 1) (by omega)
  have E1 : Hid (lt s t n T = T (n - 1)) := lt_in hpos h1
  by_cases hk0 : kn = 0
  · subst hk0
    clear hr
    generalize T (n - 1) = y at xn E1
    have E2 : Hid (lt s t n T = y) := E1
    go_enter Try.func4, Try.ntmps4
    go_wp2_with (go_at_call 9; refine (bytes9 _ _ _ _ _ _ _ (by omega)).mono ?_; rintro e w' ⟨rfl, rfl⟩)
    refine (entries_any _ n c T w R.out hn).mono ?_
    rintro e w1 ⟨rfl, hT, hb1⟩
    have C := log_any w.heap.size n s t T w1 hn h0 (by omega) hT
    rw [E1.out] at C
    clear hT
    go_wp2_with fail
    refine C.mono ?_
    clear C
    rintro e w2 ⟨rfl, hb2⟩
    have HB : Hid (Below w.heap.size w w2) := hb1.trans (hb2.mono hb1.size)
    have xn2 := cells_below HB.out _ _ _ xn

    go_wp2_with fail
    have R2 : Row w2 (some ⟨b, o, none⟩) n T := id (R.out.of_cells (cells_below HB.out))
    refine (entries_any (some ⟨b, o, none⟩) n c T w2 R2 (by omega)).mono ?_
    clear R2
    rintro e w3 ⟨rfl, hT3, hb3⟩
    have HB3 : Hid (Below w.heap.size w w3) := HB.out.trans (hb3.mono HB.out.size)
    have C := log_any w2.heap.size n s t T w3 (by omega) (by omega) (by omega) hT3
    rw [E2.out] at C
    clear hT3
    have xn3 := cells_below hb3 _ _ _ xn2
    go_wp2_with fail
    refine C.mono ?_
    clear C xn2
    rintro e w4 ⟨rfl, hb4⟩
    have HB4 : Hid (Below w.heap.size w w4) := HB3.out.trans (hb4.mono HB3.out.size)
    have xn4 := cells_below hb4 _ _ _ xn3
    have hv : (y == y) = true := by simp
    clear xn3
    go_wp2
    go_ret
    exact ⟨rfl, HB4.out⟩
  · have xk := hr.lit (j := kn - 1) (by omega)
    by_cases hkc : kn < c
    · have E2 : Hid (lt (s + kn) (T (kn - 1)) (n - kn) (fun j => T (kn + j)) = T (n - 1)) := by
        by_cases e : kn < n
        · exact lt_cut e h1
        · obtain rfl : kn = n := by omega
          rw [Nat.sub_self]
          exact lt_none
      clear hr
      generalize T (kn - 1) = z at xk E2
      generalize T (n - 1) = y at xn E1 E2
      go_enter Try.func4, Try.ntmps4
      go_wp2_with (go_at_call 9; refine (bytes9 _ _ _ _ _ _ _ (by omega)).mono ?_; rintro e w' ⟨rfl, rfl⟩)
      refine (entries_any _ n c T w R.out hn).mono ?_
      rintro e w1 ⟨rfl, hT, hb1⟩
      have C := log_any w.heap.size n s t T w1 hn h0 (by omega) hT
      rw [E1.out] at C
      clear hT
      go_wp2_with fail
      refine C.mono ?_
      clear C
      rintro e w2 ⟨rfl, hb2⟩
      have HB : Hid (Below w.heap.size w w2) := hb1.trans (hb2.mono hb1.size)
      have xn2 := cells_below HB.out _ _ _ xn

      have xk2 := cells_below HB.out _ _ _ xk

      go_wp2_with fail
      have R2 : Row w2 (some ⟨b, o + kn, none⟩) (n - kn) (fun j => T (kn + j)) := Row.cut (R.out.of_cells (cells_below HB.out))
      refine (entries_any (some ⟨b, o + kn, none⟩) (n - kn) (c - kn) (fun j => T (kn + j)) w2 R2 (by omega)).mono ?_
      clear R2
      rintro e w3 ⟨rfl, hT3, hb3⟩
      have HB3 : Hid (Below w.heap.size w w3) := HB.out.trans (hb3.mono HB.out.size)
      have C := log_any w2.heap.size (n - kn) (s + kn) z (fun j => T (kn + j)) w3 (by omega) (by omega) (by omega) hT3
      rw [E2.out] at C
      clear hT3
      have xn3 := cells_below hb3 _ _ _ xn2
      go_wp2_with fail
      refine C.mono ?_
      clear C xn2
      rintro e w4 ⟨rfl, hb4⟩
      have HB4 : Hid (Below w.heap.size w w4) := HB3.out.trans (hb4.mono HB3.out.size)
      have xn4 := cells_below hb4 _ _ _ xn3
      have hv : (y == y) = true := by simp
      clear xn3
      go_wp2
      go_ret
      exact ⟨rfl, HB4.out⟩
    · obtain rfl : n = kn := by omega
      obtain rfl : n = c := by omega
      have E2 : Hid (lt (s + n) (T (n - 1)) 0 (fun j => T (n + j)) = T (n - 1)) := lt_none
      clear hr
      generalize T (n - 1) = y at xn E1 E2
      go_enter Try.func4, Try.ntmps4
      go_wp2_with (go_at_call 9; refine (bytes9 _ _ _ _ _ _ _ (by omega)).mono ?_; rintro e w' ⟨rfl, rfl⟩)
      refine (entries_any _ n n T w R.out hn).mono ?_
      rintro e w1 ⟨rfl, hT, hb1⟩
      have C := log_any w.heap.size n s t T w1 hn h0 (by omega) hT
      rw [E1.out] at C
      clear hT
      go_wp2_with fail
      refine C.mono ?_
      clear C
      rintro e w2 ⟨rfl, hb2⟩
      have HB : Hid (Below w.heap.size w w2) := hb1.trans (hb2.mono hb1.size)
      have xn2 := cells_below HB.out _ _ _ xn

      go_wp2_with fail
      have R2 : Row w2 (some ⟨b, o, none⟩) 0 (fun j => T (n + j)) := Row.gone (R.out.of_cells (cells_below HB.out))
      refine (entries_any (some ⟨b, o, none⟩) 0 0 (fun j => T (n + j)) w2 R2 (by omega)).mono ?_
      clear R2
      rintro e w3 ⟨rfl, hT3, hb3⟩
      have HB3 : Hid (Below w.heap.size w w3) := HB.out.trans (hb3.mono HB.out.size)
      have C := log_any w2.heap.size 0 (s + n) y (fun j => T (n + j)) w3 (by omega) (by omega) (by omega) hT3
      rw [E2.out] at C
      clear hT3
      have xn3 := cells_below hb3 _ _ _ xn2
      go_wp2_with fail
      refine C.mono ?_
      clear C xn2
      rintro e w4 ⟨rfl, hb4⟩
      have HB4 : Hid (Below w.heap.size w w4) := HB3.out.trans (hb4.mono HB3.out.size)
      have xn4 := cells_below hb4 _ _ _ xn3
      have hv : (y == y) = true := by simp
      clear xn3
      go_wp2
      go_ret
      exact ⟨rfl, HB4.out⟩

theorem kept_nil (s t : Int) (w : World) (h0 : 0 ≤ s) (h1 : s ≤ 18446744073709551615) :
    Calls Try.prog 4 #[.int .u64 s, .int .u64 t, .slice none 0 0, .int .i64 0] w fun e w' => e = .returned (.bool true) ∧ Below w.heap.size w w' := by
  have hd : decide (0 ≤ 1048576) = true := by simp
  go_enter Try.func4, Try.ntmps4
  go_wp2_with (go_at_call 9; refine (bytes9 _ _ _ _ _ _ _ (by omega)).mono ?_; rintro e w' ⟨rfl, rfl⟩)
  refine (entries_any none 0 0 (fun _ => 0) w (fun j hj => by omega) (by omega)).mono ?_
  rintro e w1 ⟨rfl, hT, hb1⟩
  have C := log_any w.heap.size 0 s t (fun _ => 0) w1 (by omega) h0 h1 hT
  rw [lt_none] at C
  clear hT
  go_wp2_with fail
  refine C.mono ?_
  clear C
  rintro e w2 ⟨rfl, hb2⟩
  have HB : Hid (Below w.heap.size w w2) := hb1.trans (hb2.mono hb1.size)
  go_wp2_with fail
  refine (entries_any _ 0 _ (fun _ => 0) w2 (fun j hj => by omega) (by omega)).mono ?_
  rintro e w3 ⟨rfl, hT, hb3⟩
  have HB3 : Hid (Below w.heap.size w w3) := HB.out.trans (hb3.mono HB.out.size)
  have C := log_any w2.heap.size 0 s t (fun _ => 0) w3 (by omega) h0 h1 hT
  rw [lt_none] at C
  clear hT
  go_wp2_with fail
  refine C.mono ?_
  clear C
  rintro e w4 ⟨rfl, hb4⟩
  have HB4 : Hid (Below w.heap.size w w4) := HB3.out.trans (hb4.mono HB3.out.size)
  have hv : (t == t) = true := by simp
  go_wp2
  go_ret
  exact ⟨rfl, HB4.out⟩

theorem kept_empty (ad : Addr) (c : Nat) (s t : Int) (w : World) (hc : c ≤ 9223372036854775807) (h0 : 0 ≤ s) (h1 : s ≤ 18446744073709551615) :
    Calls Try.prog 4 #[.int .u64 s, .int .u64 t, .slice (some ad) 0 c, .int .i64 0] w fun e w' => e = .returned (.bool true) ∧ Below w.heap.size w w' := by
  have hd : decide (0 ≤ 1048576) = true := by simp
  by_cases hc0 : c = 0
  · subst hc0
    go_enter Try.func4, Try.ntmps4
    go_wp2_with (go_at_call 9; refine (bytes9 _ _ _ _ _ _ _ (by omega)).mono ?_; rintro e w' ⟨rfl, rfl⟩)
    refine (entries_any (some ad) 0 0 (fun _ => 0) w (fun j hj => by omega) (by omega)).mono ?_
    rintro e w1 ⟨rfl, hT, hb1⟩
    have C := log_any w.heap.size 0 s t (fun _ => 0) w1 (by omega) h0 h1 hT
    rw [lt_none] at C
    clear hT
    go_wp2_with fail
    refine C.mono ?_
    clear C
    rintro e w2 ⟨rfl, hb2⟩
    have HB : Hid (Below w.heap.size w w2) := hb1.trans (hb2.mono hb1.size)
    go_wp2_with fail
    refine (entries_any _ 0 _ (fun _ => 0) w2 (fun j hj => by omega) (by omega)).mono ?_
    rintro e w3 ⟨rfl, hT, hb3⟩
    have HB3 : Hid (Below w.heap.size w w3) := HB.out.trans (hb3.mono HB.out.size)
    have C := log_any w2.heap.size 0 s t (fun _ => 0) w3 (by omega) h0 h1 hT
    rw [lt_none] at C
    clear hT
    go_wp2_with fail
    refine C.mono ?_
    clear C
    rintro e w4 ⟨rfl, hb4⟩
    have HB4 : Hid (Below w.heap.size w w4) := HB3.out.trans (hb4.mono HB3.out.size)
    have hv : (t == t) = true := by simp
    go_wp2
    go_ret
    exact ⟨rfl, HB4.out⟩
  · have hc1 : 0 < c := by omega
    go_enter Try.func4, Try.ntmps4
    go_wp2_with (go_at_call 9; refine (bytes9 _ _ _ _ _ _ _ (by omega)).mono ?_; rintro e w' ⟨rfl, rfl⟩)
    refine (entries_any (some ad) 0 c (fun _ => 0) w (fun j hj => by omega) (by omega)).mono ?_
    rintro e w1 ⟨rfl, hT, hb1⟩
    have C := log_any w.heap.size 0 s t (fun _ => 0) w1 (by omega) h0 h1 hT
    rw [lt_none] at C
    clear hT
    go_wp2_with fail
    refine C.mono ?_
    clear C
    rintro e w2 ⟨rfl, hb2⟩
    have HB : Hid (Below w.heap.size w w2) := hb1.trans (hb2.mono hb1.size)
    go_wp2_with fail
    refine (entries_any _ 0 _ (fun _ => 0) w2 (fun j hj => by omega) (by omega)).mono ?_
    rintro e w3 ⟨rfl, hT, hb3⟩
    have HB3 : Hid (Below w.heap.size w w3) := HB.out.trans (hb3.mono HB.out.size)
    have C := log_any w2.heap.size 0 s t (fun _ => 0) w3 (by omega) h0 h1 hT
    rw [lt_none] at C
    clear hT
    go_wp2_with fail
    refine C.mono ?_
    clear C
    rintro e w4 ⟨rfl, hb4⟩
    have HB4 : Hid (Below w.heap.size w w4) := HB3.out.trans (hb4.mono HB3.out.size)
    have hv : (t == t) = true := by simp
    go_wp2
    go_ret
    exact ⟨rfl, HB4.out⟩

theorem kept_walk (a : Option Addr) (n c : Nat) (k s t : Int) (T : Nat → Int) (w : World) (hr : Row w a n T) (hnil : a = none → c = 0) (hnc : n ≤ c) (hc : c ≤ 9223372036854775807) (h0 : 0 ≤ s) (h1 : s ≤ 18446744073709551615) (hk1 : -9223372036854775808 ≤ k) (hk2 : k ≤ 9223372036854775807) :
    Calls Try.prog 4 #[.int .u64 s, .int .u64 t, .slice a n c, .int .i64 k] w fun e w' => e = .returned (.bool true) ∧ Below w.heap.size w w' := by
  have hn : n ≤ 9223372036854775807 := by omega
  by_cases h20 : n ≤ 1048576
  case neg =>
    have hd : decide (n ≤ 1048576) = false := decide_eq_false h20
    go_enter Try.func4, Try.ntmps4
    go_wp2_with (go_at_call 9; refine (bytes9 _ _ _ _ _ _ _ hn).mono ?_; rintro e w' ⟨rfl, rfl⟩)
    go_ret
    exact ⟨rfl, Below.refl _ _⟩
  have hd : decide (n ≤ 1048576) = true := decide_eq_true h20
  by_cases h16 : n ≤ 65536
  case neg =>
    go_enter Try.func4, Try.ntmps4
    go_wp2_with (go_at_call 9; refine (bytes9 _ _ _ _ _ _ _ hn).mono ?_; rintro e w' ⟨rfl, rfl⟩)
    go_ret
    exact ⟨rfl, Below.refl _ _⟩
  by_cases hlo : k < 0
  · go_enter Try.func4, Try.ntmps4
    go_wp2_with (go_at_call 9; refine (bytes9 _ _ _ _ _ _ _ hn).mono ?_; rintro e w' ⟨rfl, rfl⟩)
    go_ret
    exact ⟨rfl, Below.refl _ _⟩
  · by_cases hhi : (n : Int) < k
    · go_enter Try.func4, Try.ntmps4
      go_wp2_with (go_at_call 9; refine (bytes9 _ _ _ _ _ _ _ hn).mono ?_; rintro e w' ⟨rfl, rfl⟩)
      go_ret
      exact ⟨rfl, Below.refl _ _⟩
    · obtain ⟨kn, rfl⟩ := Int.eq_ofNat_of_zero_le (show 0 ≤ k by omega)
      by_cases hov : s + n ≤ 18446744073709551615
      · by_cases hz : n = 0
        · subst hz
          obtain rfl : kn = 0 := by omega
          cases a with
          | none =>
            obtain rfl := hnil rfl
            exact kept_nil s t w h0 h1
          | some ad => exact kept_empty ad c s t w hc h0 h1
        · obtain ⟨b, o, rfl, _⟩ := hr 0 (by omega)
          exact kept_some b o n c kn s t T w hr h16 hnc hc (by omega) (by omega) h0 hov
      · go_enter Try.func4, Try.ntmps4
        go_wp2_with (go_at_call 9; refine (bytes9 _ _ _ _ _ _ _ hn).mono ?_; rintro e w' ⟨rfl, rfl⟩)
        go_ret
        exact ⟨rfl, Below.refl _ _⟩

end Go.Proofs.Qxb6604416a
