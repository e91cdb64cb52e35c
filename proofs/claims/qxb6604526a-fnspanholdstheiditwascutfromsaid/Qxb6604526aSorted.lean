/-
  Seat b6604526a: zzCmpBytes, zzSorted, zzLongEnough, zzIDsTooBig and the two zzBytes_ functions.
-/
import Derived.Test.Qxb6604526aReads
namespace Go.Proofs.Qxb6604526a
open Go.RowKit

theorem cmpB_stop {f g : Nat → Int} {nx ny m j : Nat} (hm : min nx ny = m) (h0 : cmpN f g j = 0) (h : f j ≠ g j) (hlt : j < m) : cmpB f nx g ny = sg (f j) (g j) := by
  have e := cmpN_stop h0 h hlt
  unfold cmpB
  rw [hm, if_neg, e]
  rw [e]
  rcases sg_cases (f j) (g j) with ⟨_, h'⟩ | ⟨h', _⟩ | ⟨_, h'⟩
  · rw [h']; decide
  · exact absurd h' h
  · rw [h']; decide

theorem cmpB_end {f g : Nat → Int} {nx ny m : Nat} (hm : min nx ny = m) (h0 : cmpN f g m = 0) : cmpB f nx g ny = sg nx ny := by
  unfold cmpB
  rw [hm, if_pos h0]

/-- It returns a Bool; where that is b, p holds. -/
def SaysIf (e : Ending) (b : Bool) (p : Prop) : Prop := ∃ r : Bool, e = .returned (.bool r) ∧ (r = b → p)

theorem says_yes {p : Prop} (b : Bool) (h : p) : SaysIf (.returned (.bool b)) b p := ⟨b, rfl, fun _ => h⟩
theorem says_no {p : Prop} {r b : Bool} (h : r ≠ b) : SaysIf (.returned (.bool r)) b p := ⟨r, rfl, fun e => absurd e h⟩

theorem dq1 {w w' : World} (h : ∃ m, w' = w.drewN m) (n : Nat) : ∃ m, w'.drewN n = w.drewN m := by
  obtain ⟨m, rfl⟩ := h
  exact ⟨_, World.drewN_drewN _ _ _⟩

set_option maxHeartbeats 2000000 in
theorem cmpBytes_any (ax ay : Option Addr) (nx cx ny cy : Nat) (f g : Nat → Int) (w : World) (hx : Row w ax nx f) (hy : Row w ay ny g)
    (hnx : nx ≤ 9223372036854775807) (hny : ny ≤ 9223372036854775807) :
    Calls Try.prog 31 #[.slice ax nx cx, .slice ay ny cy] w fun e w' => e = .returned (.int .i64 (cmpB f nx g ny)) ∧ ∃ q, w' = w.drewN q := by
  have HX : Hid (Row w ax nx f) := hx
  have HY : Hid (Row w ay ny g) := hy
  clear hx hy
  by_cases hm : ny < nx
  · have M : Hid (min nx ny = ny) := by exact Nat.min_eq_right (by omega)
    go_enter Try.func31, Try.ntmps31
    go_wp2
    go_loopw [6] (fun s wr => ∃ j q : Nat, j ≤ ny ∧ s = .int .i64 j ∧ wr = w.drewN q ∧ Hid (cmpN f g j = 0)) (fun s _ => ny - (intOf s).toNat)
    case atStart => exact ⟨0, 0, Nat.zero_le _, rfl, rfl, (show Hid _ from rfl)⟩
    case round =>
      obtain ⟨j, q, hj, rfl, rfl, I⟩ := hrel
      by_cases hlt : j < ny
      · have stop : f j ≠ g j → cmpB f nx g ny = sg (f j) (g j) := fun h => cmpB_stop M.out I.out h hlt
        have T : Hid ((f j ≠ g j → cmpB f nx g ny = sg (f j) (g j)) ∧ (f j = g j → cmpN f g (j + 1) = 0)) := ⟨stop, fun h => cmpN_same I.out h⟩
        clear stop
        obtain ⟨bx, ox, rfl, c1, d1, d2⟩ := HX.out j (by omega)
        obtain ⟨b2, o2, rfl, c2, d3, d4⟩ := HY.out j (by omega)
        have i1 : (j : Int) < nx := by omega
        have i2 : (j : Int) < ny := by omega
        generalize f j = u at *
        generalize g j = v at *
        rcases Int.lt_trichotomy u v with h | h | h
        · go_wp2
          go_quiet (fail)
          go_wp2
          go_ret
          exact ⟨by rw [T.out.1 (by omega), sg_lt h]; rfl, dq1 ⟨_, rfl⟩ _⟩
        · have T2 : Hid (cmpN f g (j + 1) = 0) := T.out.2 h
          clear T
          subst h
          go_wp2
          go_quiet (fail)
          go_wp2
          go_quiet (fail)
          go_wp2
          go_roundw
          case rel => exact ⟨j + 1, _, by omega, by go_num, rfl, T2⟩
          case measure => simp [intOf]; omega
        · have hn : ¬ u < v := by omega
          go_wp2
          go_quiet (fail)
          go_wp2
          go_quiet (fail)
          go_wp2
          go_ret
          exact ⟨by rw [T.out.1 (by omega), sg_gt h]; rfl, dq1 (dq1 ⟨_, rfl⟩ _) _⟩
      · obtain rfl : ny = j := by omega
        have R : Hid (cmpB f nx g ny = sg nx ny) := cmpB_end M.out I.out
        go_wp2
        go_ret
        exact ⟨by rw [R.out, sg_gt (by omega)]; rfl, _, rfl⟩
  · have M : Hid (min nx ny = nx) := by exact Nat.min_eq_left (by omega)
    go_enter Try.func31, Try.ntmps31
    go_wp2
    go_loopw [6] (fun s wr => ∃ j q : Nat, j ≤ nx ∧ s = .int .i64 j ∧ wr = w.drewN q ∧ Hid (cmpN f g j = 0)) (fun s _ => nx - (intOf s).toNat)
    case atStart => exact ⟨0, 0, Nat.zero_le _, rfl, rfl, (show Hid _ from rfl)⟩
    case round =>
      obtain ⟨j, q, hj, rfl, rfl, I⟩ := hrel
      by_cases hlt : j < nx
      · have stop : f j ≠ g j → cmpB f nx g ny = sg (f j) (g j) := fun h => cmpB_stop M.out I.out h hlt
        have T : Hid ((f j ≠ g j → cmpB f nx g ny = sg (f j) (g j)) ∧ (f j = g j → cmpN f g (j + 1) = 0)) := ⟨stop, fun h => cmpN_same I.out h⟩
        clear stop
        obtain ⟨bx, ox, rfl, c1, d1, d2⟩ := HX.out j (by omega)
        obtain ⟨b2, o2, rfl, c2, d3, d4⟩ := HY.out j (by omega)
        have i1 : (j : Int) < nx := by omega
        have i2 : (j : Int) < ny := by omega
        generalize f j = u at *
        generalize g j = v at *
        rcases Int.lt_trichotomy u v with h | h | h
        · go_wp2
          go_quiet (fail)
          go_wp2
          go_ret
          exact ⟨by rw [T.out.1 (by omega), sg_lt h]; rfl, dq1 ⟨_, rfl⟩ _⟩
        · have T2 : Hid (cmpN f g (j + 1) = 0) := T.out.2 h
          clear T
          subst h
          go_wp2
          go_quiet (fail)
          go_wp2
          go_quiet (fail)
          go_wp2
          go_roundw
          case rel => exact ⟨j + 1, _, by omega, by go_num, rfl, T2⟩
          case measure => simp [intOf]; omega
        · have hn : ¬ u < v := by omega
          go_wp2
          go_quiet (fail)
          go_wp2
          go_quiet (fail)
          go_wp2
          go_ret
          exact ⟨by rw [T.out.1 (by omega), sg_gt h]; rfl, dq1 (dq1 ⟨_, rfl⟩ _) _⟩
      · obtain rfl : nx = j := by omega
        have R : Hid (cmpB f nx g ny = sg nx ny) := cmpB_end M.out I.out
        by_cases hq : nx < ny
        · go_wp2
          go_ret
          exact ⟨by rw [R.out, sg_lt (by omega)]; rfl, _, rfl⟩
        · obtain rfl : nx = ny := by omega
          go_wp2
          go_ret
          exact ⟨by rw [R.out, sg_eq rfl]; rfl, _, rfl⟩

set_option maxHeartbeats 1000000 in
theorem sorted_any (a : Option Addr) (n c : Nat) (len : Nat → Nat) (X : Nat → Nat → Int) (w : World) (h : IDs w a n len X) (hn : n ≤ 1048576) :
    Calls Try.prog 14 #[.slice a n c] w fun e w' => SaysIf e true (∀ i, i + 1 < n → cmpB (X i) (len i) (X (i + 1)) (len (i + 1)) ≤ 0) ∧ ∃ q, w' = w.drewN q := by
  have H : Hid (IDs w a n len X) := h
  clear h
  go_enter Try.func14, Try.ntmps14
  go_wp2
  go_loopw [3] (fun s wr => ∃ k : Nat, s = .int .i64 (k + 1) ∧ k ≤ n ∧ Hid (∃ q, wr = w.drewN q) ∧ Hid (∀ i, i < k → i + 1 < n → cmpB (X i) (len i) (X (i + 1)) (len (i + 1)) ≤ 0))
    (fun s _ => n - (intOf s).toNat)
  case atStart => exact ⟨0, rfl, Nat.zero_le _, (show Hid _ from ⟨0, rfl⟩), (show Hid _ from fun i hi => absurd hi (Nat.not_lt_zero _))⟩
  case round =>
    obtain ⟨k, rfl, hk, Q, I⟩ := hrel
    have H' : IDs wr a n len X := by
      obtain ⟨q, rfl⟩ := Q.out
      exact H.out
    by_cases hlt : k + 1 < n
    · obtain ⟨b, o, a0, c0, rfl, e0, l0, _, r0⟩ := H' k (by omega)
      obtain ⟨a1, c1, e1, l1, _, r1⟩ := H'.lit hlt
      have i0 : (k : Int) < n := by omega
      have i1 : (k : Int) + 1 < n := by omega
      have C : ∀ m, Calls Try.prog 31 #[.slice a0 (len k) c0, .slice a1 (len (k + 1)) c1] (wr.drewN m) fun e w' => e = .returned (.int .i64 (cmpB (X k) (len k) (X (k + 1)) (len (k + 1)))) ∧ ∃ p, w' = (wr.drewN m).drewN p :=
        fun m => cmpBytes_any a0 a1 (len k) c0 (len (k + 1)) c1 (X k) (X (k + 1)) (wr.drewN m) (r0.drewN m) (r1.drewN m) l0 l1
      clear r0 r1 H'
      have J : Hid (cmpB (X k) (len k) (X (k + 1)) (len (k + 1)) ≤ 0 → ∀ i, i < k + 1 → i + 1 < n → cmpB (X i) (len i) (X (i + 1)) (len (i + 1)) ≤ 0) := fun hle i hi hin => by
        by_cases e : i = k
        · subst e; exact hle
        · exact I.out i (by omega) hin
      generalize cmpB (X k) (len k) (X (k + 1)) (len (k + 1)) = v at C J
      generalize len k = n0 at e0 C
      generalize len (k + 1) = n1 at e1 C
      go_wp2
      go_quiet ((go_at_call 31; exact Calls.quiet_of (C _)))
      go_wp2
      · go_ret
        exact ⟨says_no (by decide), dq1 Q.out _⟩
      · have hv : v ≤ 0 := by assumption
        go_roundw
        case rel => exact ⟨k + 1, by go_num, by omega, (show Hid _ from dq1 Q.out _), (show Hid _ from J.out hv)⟩
        case measure => simp [intOf]; omega
    · clear H'
      go_wp2
      go_ret
      exact ⟨says_yes true (fun i hi => I.out i (by omega) hi), Q.out⟩

theorem long_any (a : Option Addr) (n c k : Nat) (len : Nat → Nat) (X : Nat → Nat → Int) (w : World) (h : IDs w a n len X) (hn : n ≤ 1048576) :
    Calls Try.prog 13 #[.slice a n c, .int .i64 k] w fun e w' => SaysIf e true (∀ i, i < n → k ≤ len i) ∧ w = w' := by
  have H : Hid (IDs w a n len X) := h
  clear h
  go_enter Try.func13, Try.ntmps13
  go_wp2
  go_loop [5] (fun s => ∃ i : Nat, s = .int .i64 i ∧ i ≤ n ∧ Hid (∀ t, t < i → k ≤ len t)) (fun s => n - (intOf s).toNat)
  case atStart => exact ⟨0, rfl, Nat.zero_le _, (show Hid _ from fun i hi => absurd hi (Nat.not_lt_zero _))⟩
  case round =>
    obtain ⟨i, rfl, hi, I⟩ := hrel
    by_cases hlt : i < n
    · obtain ⟨b, o, a0, c0, rfl, e0, l0, _, r0⟩ := H.out i hlt
      clear r0
      have J : Hid (k ≤ len i → ∀ t, t < i + 1 → k ≤ len t) := fun hle t ht => by
        by_cases e : t = i
        · subst e; exact hle
        · exact I.out t (by omega)
      generalize len i = n0 at e0 J l0
      by_cases hv : k ≤ n0
      · go_wp2
        go_round
        case rel => exact ⟨i + 1, by go_num, by omega, (show Hid _ from J.out (by omega))⟩
        case measure => simp [intOf]; omega
      · go_wp2
        go_ret
        exact ⟨says_no (by decide), rfl⟩
    · go_wp2
      go_ret
      exact ⟨says_yes true (fun t ht => I.out t (by omega)), rfl⟩

theorem big_any (a : Option Addr) (n c : Nat) (len : Nat → Nat) (X : Nat → Nat → Int) (w : World) (h : IDs w a n len X) (hn : n ≤ 9223372036854775807) :
    Calls Try.prog 12 #[.slice a n c] w fun e w' => SaysIf e false (n ≤ 65536 ∧ ∀ i, i < n → len i ≤ 1048576) ∧ w = w' := by
  have H : Hid (IDs w a n len X) := h
  clear h
  by_cases hbig : n ≤ 65536
  · have hd : decide ((65536 : Int) < (n : Int)) = false := decide_eq_false (by omega)
    go_enter Try.func12, Try.ntmps12
    go_wp2
    go_loop [3, 4] (fun u s => ∃ (i t : Nat), s = .int .i64 i ∧ u = .int .i64 t ∧ i ≤ n ∧ t ≤ 1048576 ∧ Hid (∀ t, t < i → len t ≤ 1048576)) (fun _ s => n - (intOf s).toNat)
    case atStart => exact ⟨0, 0, rfl, rfl, Nat.zero_le _, Nat.zero_le _, (show Hid _ from fun i hi => absurd hi (Nat.not_lt_zero _))⟩
    case round =>
      obtain ⟨i, t, rfl, rfl, hi, ht, I⟩ := hrel
      by_cases hlt : i < n
      · obtain ⟨b, o, a0, c0, rfl, e0, l0, _, r0⟩ := H.out i hlt
        clear r0
        have J : Hid (len i ≤ 1048576 → ∀ t, t < i + 1 → len t ≤ 1048576) := fun hle t ht => by
          by_cases e : t = i
          · subst e; exact hle
          · exact I.out t (by omega)
        generalize len i = n0 at e0 J l0
        by_cases h0 : n0 ≤ 1048576
        · by_cases h1 : t + (24 + n0) ≤ 1048576
          · go_wp2
            go_round
            case rel => exact ⟨i + 1, t + (24 + n0), by go_num, by go_num, by omega, by omega, (show Hid _ from J.out h0)⟩
            case measure => simp [intOf]; omega
          · go_wp2
            go_ret
            exact ⟨says_no (by decide), rfl⟩
        · go_wp2
          go_ret
          exact ⟨says_no (by decide), rfl⟩
      · go_wp2
        go_ret
        exact ⟨says_yes false (fun t ht => I.out t (by omega)), rfl⟩
  · go_enter Try.func12, Try.ntmps12
    go_wp2
    go_ret
    exact ⟨says_no (by decide), rfl⟩

theorem bytes18 (a : Option Addr) (n c : Nat) (k d : Int) (len : Nat → Nat) (X : Nat → Nat → Int) (w : World) (h : IDs w a n len X) (hn : n ≤ 9223372036854775807) :
    Calls Try.prog 18 #[.slice a n c, .int .i64 k, .int .i64 d] w fun e w' => SaysIf e true True ∧ w = w' := by
  have H : Hid (IDs w a n len X) := h
  clear h
  by_cases hbig : n ≤ 1048576
  · have hd : decide ((1048576 : Int) < (n : Int)) = false := decide_eq_false (by omega)
    go_enter Try.func18, Try.ntmps18
    go_wp2
    go_loop [7, 8] (fun u s => ∃ (i t : Nat), s = .int .i64 i ∧ u = .int .i64 t ∧ i ≤ n ∧ t ≤ 1048576) (fun _ s => n - (intOf s).toNat)
    case atStart => exact ⟨0, n, rfl, rfl, Nat.zero_le _, hbig⟩
    case round =>
      obtain ⟨i, t, rfl, rfl, hi, ht⟩ := hrel
      by_cases hlt : i < n
      · obtain ⟨b, o, a0, c0, rfl, e0, l0, _, r0⟩ := H.out i hlt
        clear r0
        generalize len i = n0 at e0 l0
        by_cases h0 : n0 ≤ 1048576
        · by_cases h1 : t + n0 ≤ 1048576
          · go_wp2
            go_round
            case rel => exact ⟨i + 1, t + n0, by go_num, by go_num, by omega, by omega⟩
            case measure => simp [intOf]; omega
          · go_wp2
            go_ret
            exact ⟨says_no (by decide), rfl⟩
        · go_wp2
          go_ret
          exact ⟨says_no (by decide), rfl⟩
      · go_wp2
        go_ret
        exact ⟨says_yes true trivial, rfl⟩
  · go_enter Try.func18, Try.ntmps18
    go_wp2
    go_ret
    exact ⟨says_no (by decide), rfl⟩

theorem bytes11 (pb : Array Value) (a : Option Addr) (n c : Nat) (d : Int) (len : Nat → Nat) (X : Nat → Nat → Int) (w : World) (h : IDs w a n len X) (hn : n ≤ 9223372036854775807) :
    Calls Try.prog 11 #[.agg pb, .int .i64 d, .slice a n c] w fun e w' => SaysIf e true True ∧ w.alloc (.cells pb 22) = w' := by
  have H : Hid (IDs w a n len X) := h
  clear h
  by_cases hbig : n ≤ 1048576
  · have hd : decide ((1048576 : Int) < (n : Int)) = false := decide_eq_false (by omega)
    go_enter Try.func11, Try.ntmps11
    go_wp2
    go_loop [7, 8] (fun u s => ∃ (i t : Nat), s = .int .i64 i ∧ u = .int .i64 t ∧ i ≤ n ∧ t ≤ 1048576) (fun _ s => n - (intOf s).toNat)
    case atStart => exact ⟨0, n, rfl, rfl, Nat.zero_le _, hbig⟩
    case round =>
      obtain ⟨i, t, rfl, rfl, hi, ht⟩ := hrel
      by_cases hlt : i < n
      · obtain ⟨b, o, a0, c0, rfl, e0, l0, _, r0⟩ := H.out i hlt
        have hb : b < w.heap.size := World.block_lt_of_cell? w _ e0
        clear r0
        generalize len i = n0 at e0 l0
        by_cases h0 : n0 ≤ 1048576
        · by_cases h1 : t + n0 ≤ 1048576
          · go_wp2
            go_round
            case rel => exact ⟨i + 1, t + n0, by go_num, by go_num, by omega, by omega⟩
            case measure => simp [intOf]; omega
          · go_wp2
            go_ret
            exact ⟨says_no (by decide), rfl⟩
        · go_wp2
          go_ret
          exact ⟨says_no (by decide), rfl⟩
      · go_wp2
        go_ret
        exact ⟨says_yes true trivial, rfl⟩
  · go_enter Try.func11, Try.ntmps11
    go_wp2
    go_ret
    exact ⟨says_no (by decide), rfl⟩

end Go.Proofs.Qxb6604526a
