/-
  Seat b6604413a: the shared walks below the two laws on atOrBelow: cmp.Less, slices.BinarySearch, atOrBelow, ZZatOrBelow.
-/
import Derived.Test.Qxb6604413aRows
import Derived.WalkKit
import Derived.WalkSpells
namespace Go.Proofs.Qxb6604413a
open Go.RowKit

theorem nan_any (x : Int) (w : World) : Calls Try.prog 19 #[.int .i64 x] w fun e w' => e = .returned (.bool false) ∧ w' = w := by
  go_enter Try.func19, Try.ntmps19
  go_wp2
  go_ret
  exact ⟨by simp, rfl⟩

theorem nan22_any (x : Int) (w : World) : Calls Try.prog 22 #[.int .i64 x] w fun e w' => e = .returned (.bool false) ∧ w' = w := by
  go_enter Try.func22, Try.ntmps22
  go_wp2
  go_ret
  exact ⟨by simp, rfl⟩

theorem less_any (x y : Int) (w : World) : Calls Try.prog 18 #[.int .i64 x, .int .i64 y] w fun e w' => e = .returned (.bool (decide (x < y))) ∧ w' = w := by
  go_enter Try.func18, Try.ntmps18
  go_wp2_with (go_at_call 22; refine (nan22_any _ _).mono ?_; rintro e w' ⟨rfl, rfl⟩)
  go_ret
  exact ⟨rfl, rfl⟩

/-- The place at which a search of the sorted numbers ends. -/
def Ends (zs : List Int) (n : Nat) (x : Int) (k : Nat) : Prop :=
  k ≤ n ∧ (∀ t, t < k → zs.getD t 0 < x) ∧ (∀ t, k ≤ t → t < n → x ≤ zs.getD t 0)

/-- Is the number searched for found at place k? -/
def hit (zs : List Int) (n : Nat) (x : Int) (k : Nat) : Bool := decide (k < n ∧ zs.getD k 0 = x)

theorem hit_yes {zs : List Int} {n : Nat} {x : Int} {k : Nat} (h : k < n) (e : zs.getD k 0 = x) : hit zs n x k = true := decide_eq_true ⟨h, e⟩
theorem hit_no {zs : List Int} {n : Nat} {x : Int} {k : Nat} (h : ¬ (k < n ∧ zs.getD k 0 = x)) : hit zs n x k = false := decide_eq_false h

set_option maxHeartbeats 1000000 in
theorem bs_any (b off n c : Nat) (zs : List Int) (x : Int) (w : World) (hbig : n < 4611686018427387904)
    (hc : ∀ j, j < n → w.cell? ⟨b, off + j, none⟩ = some (.int .i64 (zs.getD j 0)))
    (hs : ∀ a b, a ≤ b → b < n → zs.getD a 0 ≤ zs.getD b 0) :
    Calls Try.prog 14 #[.slice (some ⟨b, off, none⟩) n c, .int .i64 x] w fun e w' =>
      ∃ k : Nat, Ends zs n x k ∧ e = .returned (.tuple #[.int .i64 k, .bool (hit zs n x k)]) ∧ w' = w := by
  have S : Hid (∀ a b, a ≤ b → b < n → zs.getD a 0 ≤ zs.getD b 0) := hs
  clear hs
  go_enter Try.func14, Try.ntmps14
  go_wp2
  go_loop [7, 8] (fun s7 s8 => ∃ lo hi : Nat, s7 = .int .i64 lo ∧ s8 = .int .i64 hi ∧ lo ≤ hi ∧ hi ≤ n ∧ Hid ((∀ t, t < lo → zs.getD t 0 < x) ∧ (∀ t, hi ≤ t → t < n → x ≤ zs.getD t 0)))
    (fun s7 s8 => (intOf s8).toNat - (intOf s7).toNat)
  case atStart => exact ⟨0, n, rfl, rfl, Nat.zero_le _, Nat.le_refl _, (show Hid _ from ⟨fun t ht => absurd ht (Nat.not_lt_zero _), fun t h1 h2 => by omega⟩)⟩
  case round =>
    obtain ⟨lo, hi, rfl, rfl, hlh, hin, I⟩ := hrel
    by_cases hlt : lo < hi
    · have cm : w.cell? ⟨b, off + (lo + hi) / 2, none⟩ = some (.int .i64 (zs.getD ((lo + hi) / 2) 0)) := hc _ (by omega)
      clear hc
      generalize hy : zs.getD ((lo + hi) / 2) 0 = y at cm
      have Y : Hid (zs.getD ((lo + hi) / 2) 0 = y) := hy
      clear hy
      by_cases hyx : y < x
      · go_wp2_with (first | (go_at_call 18; refine (less_any _ _ _).mono ?_; rintro e w' ⟨rfl, rfl⟩) | (go_at_call 19; refine (nan_any _ _).mono ?_; rintro e w' ⟨rfl, rfl⟩))
        go_round
        case rel =>
          refine ⟨(lo + hi) / 2 + 1, hi, by rw [show ((lo : Int) + (hi : Int)) / 2 + 1 = (((lo + hi) / 2 + 1 : Nat) : Int) by omega], rfl, by omega, hin, (show Hid _ from ⟨fun t ht => ?_, I.out.2⟩)⟩
          have := S.out t ((lo + hi) / 2) (by omega) (by omega)
          rw [Y.out] at this
          omega
        case measure => simp [intOf]; omega
      · go_wp2_with (first | (go_at_call 18; refine (less_any _ _ _).mono ?_; rintro e w' ⟨rfl, rfl⟩) | (go_at_call 19; refine (nan_any _ _).mono ?_; rintro e w' ⟨rfl, rfl⟩))
        go_round
        case rel =>
          refine ⟨lo, (lo + hi) / 2, rfl, by rw [show ((lo : Int) + (hi : Int)) / 2 = (((lo + hi) / 2 : Nat) : Int) by omega], by omega, by omega, (show Hid _ from ⟨I.out.1, fun t ht htn => ?_⟩)⟩
          have := S.out ((lo + hi) / 2) t ht htn
          rw [Y.out] at this
          omega
        case measure => simp [intOf]; omega
    · have : hi = lo := by omega
      subst this
      have E : Hid (Ends zs n x hi) := ⟨hin, I.out.1, I.out.2⟩
      by_cases hn : hi < n
      · have cl : w.cell? ⟨b, off + hi, none⟩ = some (.int .i64 (zs.getD hi 0)) := hc _ (by omega)
        clear hc
        generalize hy : zs.getD hi 0 = y at cl
        have Y : Hid (zs.getD hi 0 = y) := hy
        clear hy
        by_cases hyx : y = x
        · go_wp2_with (first | (go_at_call 18; refine (less_any _ _ _).mono ?_; rintro e w' ⟨rfl, rfl⟩) | (go_at_call 19; refine (nan_any _ _).mono ?_; rintro e w' ⟨rfl, rfl⟩))
          go_ret2
          refine ⟨hi, E.out, ?_, rfl⟩
          rw [hit_yes hn (Y.out.trans hyx)]
          first | rfl | simp [*]
        · go_wp2_with (first | (go_at_call 18; refine (less_any _ _ _).mono ?_; rintro e w' ⟨rfl, rfl⟩) | (go_at_call 19; refine (nan_any _ _).mono ?_; rintro e w' ⟨rfl, rfl⟩))
          go_ret2
          refine ⟨hi, E.out, ?_, rfl⟩
          rw [hit_no (fun h => hyx (Y.out.symm.trans h.2))]
          first | rfl | simp [*]
      · clear hc
        go_wp2_with (first | (go_at_call 18; refine (less_any _ _ _).mono ?_; rintro e w' ⟨rfl, rfl⟩) | (go_at_call 19; refine (nan_any _ _).mono ?_; rintro e w' ⟨rfl, rfl⟩))
        go_ret2
        refine ⟨hi, E.out, ?_, rfl⟩
        rw [hit_no (fun h => hn h.1)]
        first | rfl | simp [*]

theorem bs_none (x : Int) (w : World) (a : Option Addr) (c : Nat) :
    Calls Try.prog 14 #[.slice a 0 c, .int .i64 x] w fun e w' => e = .returned (.tuple #[.int .i64 0, .bool false]) ∧ w' = w := by
  go_enter Try.func14, Try.ntmps14
  go_wp2
  refine wp_loop_rounds 1 ?_
  rw [rounds_succ]
  go_wp2
  go_ret2
  exact ⟨rfl, rfl⟩

/-- What atOrBelow answers where the search ended at k. -/
def ab (zs : List Int) (n : Nat) (x : Int) (k : Nat) : Int := if hit zs n x k = true then (k : Int) else (k : Int) - 1

theorem ab_yes {zs : List Int} {n : Nat} {x : Int} {k : Nat} (h : hit zs n x k = true) : ab zs n x k = k := if_pos h
theorem ab_no {zs : List Int} {n : Nat} {x : Int} {k : Nat} (h : hit zs n x k = false) : ab zs n x k = (k : Int) - 1 := if_neg (by rw [h]; simp)

set_option maxHeartbeats 1000000 in
theorem at_any (b off n c : Nat) (zs : List Int) (x : Int) (w : World) (hbig : n < 4611686018427387904)
    (hc : ∀ j, j < n → w.cell? ⟨b, off + j, none⟩ = some (.int .i64 (zs.getD j 0)))
    (hs : ∀ a b, a ≤ b → b < n → zs.getD a 0 ≤ zs.getD b 0) :
    Calls Try.prog 12 #[.slice (some ⟨b, off, none⟩) n c, .int .i64 x] w fun e w' =>
      ∃ k : Nat, Ends zs n x k ∧ e = .returned (.int .i64 (ab zs n x k)) ∧ w' = w := by
  have C := bs_any b off n c zs x w hbig hc hs
  clear hc hs
  go_enter Try.func12, Try.ntmps12
  go_wp2_with fail
  refine C.mono ?_
  clear C
  rintro e w' ⟨k, hk, rfl, rfl⟩
  have hkn : k ≤ n := hk.1
  have HK : Hid (Ends zs n x k) := hk
  clear hk
  cases hh : hit zs n x k
  · have HH : Hid (hit zs n x k = false) := hh
    clear hh
    go_wp2
    go_ret
    exact ⟨k, HK.out, by rw [ab_no HH.out]; rfl, rfl⟩
  · have HH : Hid (hit zs n x k = true) := hh
    clear hh
    go_wp2
    go_ret
    exact ⟨k, HK.out, by rw [ab_yes HH.out]; rfl, rfl⟩

theorem at_none (x : Int) (w : World) (a : Option Addr) (c : Nat) :
    Calls Try.prog 12 #[.slice a 0 c, .int .i64 x] w fun e w' => e = .returned (.int .i64 (-1)) ∧ w' = w := by
  go_enter Try.func12, Try.ntmps12
  go_wp2_with (go_at_call 14; refine (bs_none _ _ _ _).mono ?_; rintro e w' ⟨rfl, rfl⟩)
  go_ret
  exact ⟨rfl, rfl⟩

theorem zz_any (b off n c : Nat) (zs : List Int) (x : Int) (w : World) (hbig : n < 4611686018427387904)
    (hc : ∀ j, j < n → w.cell? ⟨b, off + j, none⟩ = some (.int .i64 (zs.getD j 0)))
    (hs : ∀ a b, a ≤ b → b < n → zs.getD a 0 ≤ zs.getD b 0) :
    Calls Try.prog 8 #[.slice (some ⟨b, off, none⟩) n c, .int .i64 x] w fun e w' =>
      ∃ k : Nat, Ends zs n x k ∧ e = .returned (.int .i64 (ab zs n x k)) ∧ w' = w := by
  have C := at_any b off n c zs x w hbig hc hs
  clear hc hs
  go_enter Try.func8, Try.ntmps8
  go_wp2_with fail
  refine C.mono ?_
  clear C
  rintro e w' ⟨k, hk, rfl, rfl⟩
  go_wp2
  go_ret
  exact ⟨k, hk, rfl, rfl⟩

theorem zz_none (x : Int) (w : World) (a : Option Addr) (c : Nat) :
    Calls Try.prog 8 #[.slice a 0 c, .int .i64 x] w fun e w' => e = .returned (.int .i64 (-1)) ∧ w' = w := by
  go_enter Try.func8, Try.ntmps8
  go_wp2_with (go_at_call 12; refine (at_none _ _ _ _).mono ?_; rintro e w' ⟨rfl, rfl⟩)
  go_ret
  exact ⟨rfl, rfl⟩

theorem Try.info3 : (Try.prog.info? 3).map (fun i => (i.zero, i.size, i.bytes)) = some (some (.int .i64 0), 1, 8) := by kernel_rfl

end Go.Proofs.Qxb6604413a
