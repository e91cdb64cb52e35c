/-
  Seat b6604413a: the walk of FnAtOrBelowIsCountAtOrBelowLessOne.
-/
import Derived.Test.Qxb6604413aBase
import Derived.Test.Qxb6604413aPlain
import Derived.Below
import Derived.Deep.OwnRows
import Derived.Deep.QuietTactic
import Derived.BigQuiet
import Derived.WalkSmall
namespace Go.Proofs.Qxb6604413a
open Go.RowKit

theorem bytes7 (a : Option Addr) (len cap : Nat) (x : Int) (w : World) (h : len ≤ 9223372036854775807) :
    Calls Try.prog 7 #[.slice a len cap, .int .i64 x] w fun e w' => e = .returned (.bool (decide (len ≤ 1048576))) ∧ w = w' := by
  by_cases hl : len ≤ 1048576
  · go_enter Try.func7, Try.ntmps7
    go_wp2
    go_ret
    exact ⟨by rw [decide_eq_true hl]; rfl, rfl⟩
  · go_enter Try.func7, Try.ntmps7
    go_wp2
    go_ret
    exact ⟨by rw [decide_eq_false hl]; rfl, rfl⟩

/-- What the count comes to where the search ended at k. -/
theorem count_ab (zs : List Int) (n : Nat) (x : Int) (k : Nat) (hE : Ends zs n x k) (hs : ∀ t, t + 1 < n → zs.getD t 0 < zs.getD (t + 1) 0) : ab zs n x k = (cnt zs x n : Int) - 1 := by
  obtain ⟨hk, h1, h2⟩ := hE
  cases hh : hit zs n x k with
  | true =>
    have hq : k < n ∧ zs.getD k 0 = x := of_decide_eq_true hh
    have := cnt_bound zs x n (k + 1) (fun t ht => by
      by_cases e : t = k
      · subst e; omega
      · have := h1 t (by omega); omega) (fun t ht htn => by
      have := rise zs n hs k (t - k) (by omega) (by omega)
      rw [show k + (t - k) = t by omega] at this
      omega) n (Nat.le_refl _)
    rw [ab_yes hh, this]; omega
  | false =>
    have hq : ¬ (k < n ∧ zs.getD k 0 = x) := of_decide_eq_false hh
    have := cnt_bound zs x n k (fun t ht => by have := h1 t ht; omega) (fun t ht htn => by
      have h3 := h2 t ht htn
      by_cases e : zs.getD t 0 = x
      · exfalso
        by_cases et : t = k
        · subst et; exact hq ⟨htn, e⟩
        · have := rise zs n hs k (t - k) (by omega) (by omega)
          rw [show k + (t - k) = t by omega] at this
          have := h2 k (Nat.le_refl _) (by omega)
          omega
      · omega) n (Nat.le_refl _)
    rw [ab_no hh, this]; omega

set_option maxHeartbeats 2000000 in
theorem count_walk (b off len cap : Nat) (zs : List Int) (x : Int) (w : World) (hlen : len ≤ 9223372036854775807) (hb : b < w.heap.size)
    (hc : ∀ j, j < len → w.cell? ⟨b, off + j, none⟩ = some (.int .i64 (zs.getD j 0))) :
    Calls Try.prog 3 #[.slice (some ⟨b, off, none⟩) len cap, .int .i64 x] w fun e w' => e = .returned (.bool true) ∧ Below w.heap.size w w' := by
  by_cases h20 : len ≤ 1048576
  case neg =>
    have hd : decide (len ≤ 1048576) = false := decide_eq_false h20
    go_enter Try.func3, Try.ntmps3
    go_wp2_with (go_at_call 7; refine (bytes7 _ _ _ _ _ hlen).mono ?_; rintro e w' ⟨rfl, rfl⟩)
    go_ret
    exact ⟨rfl, Below.refl _ _⟩
  have hd : decide (len ≤ 1048576) = true := decide_eq_true h20
  by_cases h17 : len ≤ 131072
  case neg =>
    go_enter Try.func3, Try.ntmps3
    go_wp2_with (go_at_call 7; refine (bytes7 _ _ _ _ _ hlen).mono ?_; rintro e w' ⟨rfl, rfl⟩)
    go_ret
    exact ⟨rfl, Below.refl _ _⟩
  have hd17 : decide ((131072 : Int) < (len : Int)) = false := decide_eq_false (by omega)
  have hne := fun w => run_neq_slice_nil_any (P := Try.prog) w 22 3 (some ⟨b, off, none⟩) len cap 0 0 Try.underlying22
  have hmk := run_make_row' (P := Try.prog) 22 3 (.int .i64 0) 8 Try.underlying22 Try.info3 rfl .i64 .i64 len (by omega) hlen
  go_enter Try.func3, Try.ntmps3
  go_wp2_with (go_at_call 7; refine (bytes7 _ _ _ _ _ hlen).mono ?_; rintro e w' ⟨rfl, rfl⟩)
  go_loopw [5] (fun s wr => ∃ k q : Nat, s = .int .i64 (k + 1) ∧ k ≤ len ∧ wr = w.drewN q ∧ Hid (∀ t, t < k → t + 1 < len → zs.getD t 0 < zs.getD (t + 1) 0))
    (fun s _ => len - (intOf s).toNat)
  case atStart => exact ⟨0, 0, rfl, Nat.zero_le _, rfl, (show Hid _ from fun t ht => absurd ht (Nat.not_lt_zero _))⟩
  case round =>
    obtain ⟨k, q, rfl, hkl, rfl, I⟩ := hrel
    by_cases hlt : k + 1 < len
    · have c0 := hc k (by omega)
      have c1 := hc (k + 1) hlt
      have hi0 : (k : Int) < len := by omega
      have hi1 : (k : Int) + 1 < len := by omega
      generalize hy0 : zs.getD k 0 = y0 at c0
      generalize hy1 : zs.getD (k + 1) 0 = y1 at c1
      have Y : Hid (zs.getD k 0 = y0 ∧ zs.getD (k + 1) 0 = y1) := ⟨hy0, hy1⟩
      clear hy0 hy1 hc
      go_wp2
      go_quiet (fail)
      go_wp2
      · go_ret
        exact ⟨rfl, below_drewN (below_drewN (Below.refl _ _) _) _⟩
      · have hy : y0 < y1 := by assumption
        go_roundw
        case rel =>
          refine ⟨k + 1, _, by go_num, by omega, rfl, (show Hid _ from fun t ht htn => ?_)⟩
          by_cases e : t = k
          · subst e; rw [Y.out.1, Y.out.2]; exact hy
          · exact I.out t (by omega) htn
        case measure => simp [intOf]; omega
    · have hs : ∀ t, t + 1 < len → zs.getD t 0 < zs.getD (t + 1) 0 := fun t ht => I.out t (by omega) ht
      have S : Hid (∀ t, t + 1 < len → zs.getD t 0 < zs.getD (t + 1) 0) := hs
      clear hs
      go_wp2
      go_loopw [7] (fun s wr => ∃ i : Nat, s = .int .i64 i ∧ i ≤ len ∧ wr.rowIs w.heap.size 3 len (fun j => if j < i then .int .i64 (zs.getD j 0) else .int .i64 0) ∧ Below w.heap.size w wr)
        (fun s _ => len - (intOf s).toNat)
      case atStart =>
        refine ⟨0, rfl, Nat.zero_le _, ?_, ?_⟩
        · exact (World.rowIs_made (w.drewN q) (.int .i64 0) len 3).congr (fun i _ => by simp)
        · exact (below_drewN (Below.refl _ _) _).alloc (Nat.le_refl _) _
      case round =>
        obtain ⟨i, rfl, hil, hrow, hbel⟩ := hrel
        by_cases hlt2 : i < len
        · have ci : wr.cell? ⟨b, off + i, none⟩ = some (.int .i64 (zs.getD i 0)) := (hbel.cell (p := ⟨b, off + i, none⟩) hb).trans (hc i hlt2)
          have co := hrow.cell hlt2
          have fo := hrow.frozen i
          generalize hy : zs.getD i 0 = y at ci
          have Y : Hid (zs.getD i 0 = y) := hy
          clear hy
          go_wp2
          go_roundw
          case rel =>
            refine ⟨i + 1, by go_num, by omega, ?_, hbel.setCell (Nat.le_refl _) _⟩
            refine (hrow.set i _).congr (fun j hj => ?_)
            by_cases e : j = i
            · subst e; rw [if_pos rfl, if_pos (by omega), Y.out]
            · rw [if_neg e]
              by_cases e2 : j < i
              · rw [if_pos e2, if_pos (by omega)]
              · rw [if_neg e2, if_neg (by omega)]
          case measure => simp [intOf]; omega
        · have hw : ∀ j, j < len → wr.cell? ⟨w.heap.size, j, none⟩ = some (.int .i64 (zs.getD j 0)) := fun j hj => by
            rw [hrow.cell hj, if_pos (by omega)]
          clear hc hrow
          go_wp2
          go_loop [8, 9] (fun s r => ∃ j : Nat, j ≤ len ∧ r = .int .i64 j ∧ s = .int .i64 (cnt zs x j)) (fun _ r => len - (intOf r).toNat)
          case atStart => exact ⟨0, Nat.zero_le _, rfl, rfl⟩
          case round =>
            obtain ⟨j, hj, rfl, rfl⟩ := hrel
            have hcl := cnt_le zs x j
            by_cases hlt3 : j < len
            · have cj := hw j hlt3
              clear hw
              generalize hy : zs.getD j 0 = y at cj
              have Y : Hid (zs.getD j 0 = y) := hy
              clear hy
              by_cases hyx : y ≤ x
              · go_wp2
                go_round
                case rel => exact ⟨j + 1, by omega, by go_num, by rw [cnt_yes (by rw [Y.out]; exact hyx)]; go_num⟩
                case measure => simp [intOf]; omega
              · go_wp2
                go_round
                case rel => exact ⟨j + 1, by omega, by go_num, by rw [cnt_no (by rw [Y.out]; exact hyx)]⟩
                case measure => simp [intOf]; omega
            · have hjl : j = len := by omega
              have C := zz_any w.heap.size 0 len len zs x wr (by omega) (fun t ht => by simpa using hw t ht) (rise_le zs len S.out)
              clear hw
              go_wp2_with fail
              refine C.mono ?_
              clear C
              rintro e w' ⟨t, ht, rfl, rfl⟩
              have hq := count_ab zs len x t ht S.out
              subst hjl
              have he : (ab zs j x t == (cnt zs x j : Int) - 1) = true := by rw [hq]; simp
              clear hq ht
              go_wp2
              go_ret
              exact ⟨rfl, hbel⟩

/-- No element: the nil slice. -/
theorem count_nil (cap : Nat) (x : Int) (w : World) :
    Calls Try.prog 3 #[.slice none 0 cap, .int .i64 x] w fun e w' => e = .returned (.bool true) ∧ Below w.heap.size w w' := by
  have hne := fun w => run_neq_slice_nil_any (P := Try.prog) w 22 3 none 0 cap 0 0 Try.underlying22
  have hlen : 0 ≤ 9223372036854775807 := by omega
  go_enter Try.func3, Try.ntmps3
  go_wp2_with (go_at_call 7; refine (bytes7 _ _ _ _ _ hlen).mono ?_; rintro e w' ⟨rfl, rfl⟩)
  refine wp_loop_rounds 1 ?_
  rw [rounds_succ]
  go_wp2
  refine wp_loop_rounds 1 ?_
  rw [rounds_succ]
  go_wp2_with (go_at_call 8; refine (zz_none _ _ _ _).mono ?_; rintro e w' ⟨rfl, rfl⟩)
  go_ret
  exact ⟨rfl, Below.refl _ _⟩

/-- No element: a slice that is not nil. -/
theorem count_empty (ad : Addr) (cap : Nat) (x : Int) (w : World) :
    Calls Try.prog 3 #[.slice (some ad) 0 cap, .int .i64 x] w fun e w' => e = .returned (.bool true) ∧ Below w.heap.size w w' := by
  have hne := fun w => run_neq_slice_nil_any (P := Try.prog) w 22 3 (some ad) 0 cap 0 0 Try.underlying22
  have hmk : ∀ w, (Instr.makeSlice 22 (.int .i64 0) (.int .i64 0)).run Try.prog w = .ok (.slice (some ⟨w.heap.size, 0, none⟩) 0 0) (w.alloc (.cells (madeCells #[.int .i64 0] 0) 3)) := run_make_row' (P := Try.prog) 22 3 (.int .i64 0) 8 Try.underlying22 Try.info3 rfl .i64 .i64 0 (by omega) (by omega)
  have hlen : 0 ≤ 9223372036854775807 := by omega
  go_enter Try.func3, Try.ntmps3
  go_wp2_with (go_at_call 7; refine (bytes7 _ _ _ _ _ hlen).mono ?_; rintro e w' ⟨rfl, rfl⟩)
  refine wp_loop_rounds 1 ?_
  rw [rounds_succ]
  go_wp2
  refine wp_loop_rounds 1 ?_
  rw [rounds_succ]
  go_wp2
  refine wp_loop_rounds 1 ?_
  rw [rounds_succ]
  go_wp2_with (go_at_call 8; refine (zz_none _ _ _ _).mono ?_; rintro e w' ⟨rfl, rfl⟩)
  go_ret
  exact ⟨rfl, (Below.refl _ _).alloc (Nat.le_refl _) _⟩

end Go.Proofs.Qxb6604413a
