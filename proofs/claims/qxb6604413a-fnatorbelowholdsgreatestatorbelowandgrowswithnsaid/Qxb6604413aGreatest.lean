/-
  Seat b6604413a: the walk of FnAtOrBelowHoldsGreatestAtOrBelowAndGrowsWithN.
-/
import Derived.Test.Qxb6604413aBase
import Derived.Test.Qxb6604413aPlain
import Derived.Below
import Derived.Deep.OwnRows
import Derived.Deep.QuietTactic
import Derived.BigQuiet
import Derived.WalkSmall
namespace Go.Proofs.Qxb6604413a
open Go.RowKit

theorem bytes9 (a : Option Addr) (len cap : Nat) (x : Int) (w : World) (h : len ≤ 9223372036854775807) :
    Calls Try.prog 9 #[.slice a len cap, .int .i64 x] w fun e w' => e = .returned (.bool (decide (len ≤ 1048576))) ∧ w = w' := by
  by_cases hl : len ≤ 1048576
  · go_enter Try.func9, Try.ntmps9
    go_wp2
    go_ret
    exact ⟨by rw [decide_eq_true hl]; rfl, rfl⟩
  · go_enter Try.func9, Try.ntmps9
    go_wp2
    go_ret
    exact ⟨by rw [decide_eq_false hl]; rfl, rfl⟩

/-- What the search for the greatest at or below x holds after j rounds. -/
def Best (zs : List Int) (x : Int) (j : Nat) (h : Bool) (m : Int) : Prop :=
  (h = false → ∀ t, t < j → x < zs.getD t 0) ∧ (h = true → m ≤ x ∧ (∃ t, t < j ∧ zs.getD t 0 = m) ∧ ∀ t, t < j → zs.getD t 0 ≤ x → zs.getD t 0 ≤ m)

theorem best_zero (zs : List Int) (x m : Int) : Best zs x 0 false m := ⟨fun _ t ht => absurd ht (Nat.not_lt_zero _), fun h => by cases h⟩

theorem best_above {zs : List Int} {x : Int} {j : Nat} {h : Bool} {m y : Int} (B : Best zs x j h m) (hy : zs.getD j 0 = y) (hx : ¬ y ≤ x) : Best zs x (j + 1) h m := by
  refine ⟨fun e t ht => ?_, fun e => ?_⟩
  · by_cases et : t = j
    · subst et; omega
    · exact B.1 e t (by omega)
  · obtain ⟨a, ⟨t, ht, hm⟩, c⟩ := B.2 e
    refine ⟨a, ⟨t, by omega, hm⟩, fun s hs hle => ?_⟩
    by_cases es : s = j
    · subst es; omega
    · exact c s (by omega) hle

theorem best_first {zs : List Int} {x : Int} {j : Nat} {m y : Int} (B : Best zs x j false m) (hy : zs.getD j 0 = y) (hx : y ≤ x) : Best zs x (j + 1) true y := by
  refine ⟨fun e => (by cases e), fun _ => ⟨hx, ⟨j, by omega, hy⟩, fun t ht hle => ?_⟩⟩
  by_cases et : t = j
  · subst et; omega
  · have := B.1 rfl t (by omega); omega

theorem best_more {zs : List Int} {x : Int} {j : Nat} {m y : Int} (B : Best zs x j true m) (hy : zs.getD j 0 = y) (hx : y ≤ x) (hm : m < y) : Best zs x (j + 1) true y := by
  refine ⟨fun e => (by cases e), fun _ => ⟨hx, ⟨j, by omega, hy⟩, fun t ht hle => ?_⟩⟩
  by_cases et : t = j
  · subst et; omega
  · have := (B.2 rfl).2.2 t (by omega) hle; omega

theorem best_less {zs : List Int} {x : Int} {j : Nat} {m y : Int} (B : Best zs x j true m) (hy : zs.getD j 0 = y) (hm : ¬ m < y) : Best zs x (j + 1) true m := by
  obtain ⟨a, ⟨t, ht, hm'⟩, c⟩ := B.2 rfl
  refine ⟨fun e => (by cases e), fun _ => ⟨a, ⟨t, by omega, hm'⟩, fun s hs hle => ?_⟩⟩
  by_cases es : s = j
  · subst es; omega
  · exact c s (by omega) hle

theorem best_none {zs : List Int} {x : Int} {n k : Nat} {m : Int} (B : Best zs x n false m) (E : Ends zs n x k) : ab zs n x k = -1 := by
  obtain ⟨hk, h1, h2⟩ := E
  have b := B.1 rfl
  have hk0 : k = 0 := by
    by_cases e : k = 0
    · exact e
    · have := h1 0 (by omega); have := b 0 (by omega); omega
  have hh : hit zs n x k = false := hit_no (fun ⟨q, e⟩ => by have := b k q; omega)
  rw [ab_no hh, hk0]; rfl

theorem best_some {zs : List Int} {x : Int} {n k : Nat} {m : Int} (B : Best zs x n true m) (E : Ends zs n x k) (hs : ∀ a b, a ≤ b → b < n → zs.getD a 0 ≤ zs.getD b 0) :
    ∃ r : Nat, ab zs n x k = r ∧ r < n ∧ zs.getD r 0 = m := by
  obtain ⟨hk, h1, h2⟩ := E
  obtain ⟨hm, ⟨t, ht, htm⟩, hb⟩ := B.2 rfl
  cases hh : hit zs n x k with
  | true =>
    have hq : k < n ∧ zs.getD k 0 = x := of_decide_eq_true hh
    refine ⟨k, ab_yes hh, hq.1, ?_⟩
    have := hb k hq.1 (by omega)
    omega
  | false =>
    have hq : ¬ (k < n ∧ zs.getD k 0 = x) := of_decide_eq_false hh
    have htk : t < k := by
      by_cases e : t < k
      · exact e
      · exfalso
        have a1 := h2 t (by omega) ht
        have a2 := h2 k (Nat.le_refl _) (by omega)
        have a3 := hs k t (by omega) ht
        exact hq ⟨by omega, by omega⟩
    refine ⟨k - 1, by rw [ab_no hh]; omega, by omega, ?_⟩
    have b1 := h1 (k - 1) (by omega)
    have b2 := hb (k - 1) (by omega) (by omega)
    have b3 := hs t (k - 1) (by omega) (by omega)
    omega

theorem ab_grows {zs : List Int} {x : Int} {n k k' : Nat} (E : Ends zs n x k) (E' : Ends zs n (x + 1) k') : ab zs n x k ≤ ab zs n (x + 1) k' := by
  obtain ⟨hk, h1, h2⟩ := E
  obtain ⟨hk', h1', h2'⟩ := E'
  have low : (k' : Int) - 1 ≤ ab zs n (x + 1) k' := by
    cases hh : hit zs n (x + 1) k' with
    | true => rw [ab_yes hh]; omega
    | false => rw [ab_no hh]; omega
  have hkk : k ≤ k' := by
    by_cases e : k ≤ k'
    · exact e
    · have a1 := h1 k' (by omega)
      have a2 := h2' k' (Nat.le_refl _) (by omega)
      omega
  cases hh : hit zs n x k with
  | true =>
    have hq : k < n ∧ zs.getD k 0 = x := of_decide_eq_true hh
    rw [ab_yes hh]
    have : k < k' := by
      by_cases e : k < k'
      · exact e
      · have a2 := h2' k (by omega) hq.1
        omega
    omega
  | false => rw [ab_no hh]; omega

theorem ab_range {zs : List Int} {x : Int} {n k : Nat} (E : Ends zs n x k) : -1 ≤ ab zs n x k ∧ ab zs n x k ≤ n := by
  have := E.1
  cases hh : hit zs n x k with
  | true => rw [ab_yes hh]; omega
  | false => rw [ab_no hh]; omega

set_option maxHeartbeats 4000000 in
theorem great_walk (b off len cap : Nat) (zs : List Int) (x : Int) (w : World) (hx1 : -9223372036854775808 ≤ x) (hx2 : x ≤ 9223372036854775807) (hlen : len ≤ 9223372036854775807) (hb : b < w.heap.size)
    (hc : ∀ j, j < len → w.cell? ⟨b, off + j, none⟩ = some (.int .i64 (zs.getD j 0))) :
    Calls Try.prog 4 #[.slice (some ⟨b, off, none⟩) len cap, .int .i64 x] w fun e w' => e = .returned (.bool true) ∧ Below w.heap.size w w' := by
  by_cases h20 : len ≤ 1048576
  case neg =>
    have hd : decide (len ≤ 1048576) = false := decide_eq_false h20
    go_enter Try.func4, Try.ntmps4
    go_wp2_with (go_at_call 9; refine (bytes9 _ _ _ _ _ hlen).mono ?_; rintro e w' ⟨rfl, rfl⟩)
    go_ret
    exact ⟨rfl, Below.refl _ _⟩
  have hd : decide (len ≤ 1048576) = true := decide_eq_true h20
  by_cases h17 : len ≤ 131072
  case neg =>
    go_enter Try.func4, Try.ntmps4
    go_wp2_with (go_at_call 9; refine (bytes9 _ _ _ _ _ hlen).mono ?_; rintro e w' ⟨rfl, rfl⟩)
    go_ret
    exact ⟨rfl, Below.refl _ _⟩
  have hd17 : decide ((131072 : Int) < (len : Int)) = false := decide_eq_false (by omega)
  have hne := fun w => run_neq_slice_nil_any (P := Try.prog) w 22 3 (some ⟨b, off, none⟩) len cap 0 0 Try.underlying22
  have hmk := run_make_row' (P := Try.prog) 22 3 (.int .i64 0) 8 Try.underlying22 Try.info3 rfl .i64 .i64 len (by omega) hlen
  go_enter Try.func4, Try.ntmps4
  go_wp2_with (go_at_call 9; refine (bytes9 _ _ _ _ _ hlen).mono ?_; rintro e w' ⟨rfl, rfl⟩)
  go_loopw [5] (fun s wr => ∃ k q : Nat, s = .int .i64 (k + 1) ∧ k ≤ len ∧ wr = w.drewN q ∧ Hid (∀ t, t < k → t + 1 < len → zs.getD t 0 ≤ zs.getD (t + 1) 0))
    (fun s _ => len - (intOf s).toNat)
  case atStart => exact ⟨0, 0, rfl, Nat.zero_le _, rfl, (show Hid _ from fun t ht => absurd ht (Nat.not_lt_zero _))⟩
  case round =>
    obtain ⟨k, q, rfl, hkl, rfl, I⟩ := hrel
    by_cases hlt : k + 1 < len
    · have c0 := hc k (by omega)
      have c1 := hc (k + 1) hlt
      have hi0 : (k : Int) < len := by omega
      have hi1 : (k : Int) + 1 < len := by omega
      generalize hy0 : zs.getD k 0 = y0 at c0
      generalize hy1 : zs.getD (k + 1) 0 = y1 at c1
      have Y : Hid (zs.getD k 0 = y0 ∧ zs.getD (k + 1) 0 = y1) := ⟨hy0, hy1⟩
      clear hy0 hy1 hc
      go_wp2
      go_quiet (fail)
      go_wp2
      · go_ret
        exact ⟨rfl, below_drewN (below_drewN (Below.refl _ _) _) _⟩
      · have hy : y0 ≤ y1 := by assumption
        go_roundw
        case rel =>
          refine ⟨k + 1, _, by go_num, by omega, rfl, (show Hid _ from fun t ht htn => ?_)⟩
          by_cases e : t = k
          · subst e; rw [Y.out.1, Y.out.2]; exact hy
          · exact I.out t (by omega) htn
        case measure => simp [intOf]; omega
    · have hs : ∀ t, t + 1 < len → zs.getD t 0 ≤ zs.getD (t + 1) 0 := fun t ht => I.out t (by omega) ht
      have S : Hid (∀ a b, a ≤ b → b < len → zs.getD a 0 ≤ zs.getD b 0) := keep_le zs len hs
      clear hs
      go_wp2
      go_loopw [7] (fun s wr => ∃ i : Nat, s = .int .i64 i ∧ i ≤ len ∧ wr.rowIs w.heap.size 3 len (fun j => if j < i then .int .i64 (zs.getD j 0) else .int .i64 0) ∧ Below w.heap.size w wr)
        (fun s _ => len - (intOf s).toNat)
      case atStart =>
        refine ⟨0, rfl, Nat.zero_le _, ?_, ?_⟩
        · exact (World.rowIs_made (w.drewN q) (.int .i64 0) len 3).congr (fun i _ => by simp)
        · exact (below_drewN (Below.refl _ _) _).alloc (Nat.le_refl _) _
      case round =>
        obtain ⟨i, rfl, hil, hrow, hbel⟩ := hrel
        by_cases hlt2 : i < len
        · have ci : wr.cell? ⟨b, off + i, none⟩ = some (.int .i64 (zs.getD i 0)) := (hbel.cell (p := ⟨b, off + i, none⟩) hb).trans (hc i hlt2)
          have co := hrow.cell hlt2
          have fo := hrow.frozen i
          generalize hy : zs.getD i 0 = y at ci
          have Y : Hid (zs.getD i 0 = y) := hy
          clear hy
          go_wp2
          go_roundw
          case rel =>
            refine ⟨i + 1, by go_num, by omega, ?_, hbel.setCell (Nat.le_refl _) _⟩
            refine (hrow.set i _).congr (fun j hj => ?_)
            by_cases e : j = i
            · subst e; rw [if_pos rfl, if_pos (by omega), Y.out]
            · rw [if_neg e]
              by_cases e2 : j < i
              · rw [if_pos e2, if_pos (by omega)]
              · rw [if_neg e2, if_neg (by omega)]
          case measure => simp [intOf]; omega
        · have hw : ∀ j, j < len → wr.cell? ⟨w.heap.size, j, none⟩ = some (.int .i64 (zs.getD j 0)) := fun j hj => by
            rw [hrow.cell hj, if_pos (by omega)]
          have W : Hid (∀ j, j < len → wr.cell? ⟨w.heap.size, j, none⟩ = some (.int .i64 (zs.getD j 0))) := hw
          have C := zz_any w.heap.size 0 len len zs x wr (by omega) (fun t ht => by simpa using hw t ht) S.out
          clear hc hrow hw
          go_wp2_with fail
          refine C.mono ?_
          clear C
          rintro e w' ⟨k1, E1, rfl, rfl⟩
          have hr := ab_range E1
          have EH : Hid (Ends zs len x k1) := E1
          clear E1
          generalize hr1 : ab zs len x k1 = r at hr ⊢
          have R : Hid (ab zs len x k1 = r) := hr1
          clear hr1
          go_wp2
          go_loop [9, 10, 11] (fun s u v => ∃ (j : Nat) (h : Bool) (m : Int), j ≤ len ∧ v = .int .i64 j ∧ s = .bool h ∧ u = .int .i64 m ∧ Hid (Best zs x j h m)) (fun _ _ v => len - (intOf v).toNat)
          case atStart => exact ⟨0, false, 0, Nat.zero_le _, rfl, rfl, rfl, (show Hid _ from best_zero zs x 0)⟩
          case round =>
            obtain ⟨j, h, m, hj, rfl, rfl, rfl, B⟩ := hrel
            by_cases hlt3 : j < len
            · have cj := W.out j hlt3
              generalize hy : zs.getD j 0 = y at cj
              have Y : Hid (zs.getD j 0 = y) := hy
              clear hy
              by_cases hyx : y ≤ x
              · cases h with
                | false =>
                  go_wp2
                  go_round
                  case rel => exact ⟨j + 1, true, y, by omega, by go_num, rfl, rfl, (show Hid _ from best_first B.out Y.out hyx)⟩
                  case measure => simp [intOf]; omega
                | true =>
                  by_cases hmy : m < y
                  · go_wp2
                    go_round
                    case rel => exact ⟨j + 1, true, y, by omega, by go_num, rfl, rfl, (show Hid _ from best_more B.out Y.out hyx hmy)⟩
                    case measure => simp [intOf]; omega
                  · go_wp2
                    go_round
                    case rel => exact ⟨j + 1, true, m, by omega, by go_num, rfl, rfl, (show Hid _ from best_less B.out Y.out hmy)⟩
                    case measure => simp [intOf]; omega
              · go_wp2
                go_round
                case rel => exact ⟨j + 1, h, m, by omega, by go_num, rfl, rfl, (show Hid _ from best_above B.out Y.out hyx)⟩
                case measure => simp [intOf]; omega
            · have hjl : j = len := by omega
              subst hjl
              have C2 := zz_any w.heap.size 0 j j zs (x + 1) w' (by omega) (fun t ht => by simpa using W.out t ht) S.out
              have H2 : Hid (Calls Try.prog 8 #[.slice (some ⟨w.heap.size, 0, none⟩) j j, .int .i64 (x + 1)] w' fun e w'' => ∃ k : Nat, Ends zs j (x + 1) k ∧ e = .returned (.int .i64 (ab zs j (x + 1) k)) ∧ w'' = w') := C2
              clear C2
              cases h with
              | false =>
                have hr2 : r = -1 := R.out.symm.trans (best_none B.out EH.out)
                subst hr2
                by_cases hxm : x < 9223372036854775807
                · go_wp2_with fail
                  refine H2.out.mono ?_
                  rintro e w2 ⟨k2, E2, rfl, rfl⟩
                  have hg : (-1 : Int) ≤ ab zs j (x + 1) k2 := (ab_range E2).1
                  clear E2
                  generalize ab zs j (x + 1) k2 = r2 at hg ⊢
                  go_wp2
                  go_ret
                  exact ⟨rfl, hbel⟩
                · go_wp2
                  go_ret
                  exact ⟨rfl, hbel⟩
              | true =>
                obtain ⟨rn, hrn, hlt4, hm⟩ := best_some B.out EH.out S.out
                have hr2 : r = (rn : Int) := R.out.symm.trans hrn
                subst hr2
                have cr := W.out rn hlt4
                rw [hm] at cr
                have M : Hid (zs.getD rn 0 = m) := hm
                clear hm hrn
                by_cases hxm : x < 9223372036854775807
                · go_wp2_with fail
                  refine H2.out.mono ?_
                  rintro e w2 ⟨k2, E2, rfl, rfl⟩
                  have hg : (rn : Int) ≤ ab zs j (x + 1) k2 := by
                    have := ab_grows EH.out E2
                    rw [R.out] at this
                    exact this
                  clear E2
                  generalize ab zs j (x + 1) k2 = r2 at hg ⊢
                  go_wp2
                  go_ret
                  exact ⟨rfl, hbel⟩
                · go_wp2
                  go_ret
                  exact ⟨rfl, hbel⟩

/-- No element: the nil slice. -/
theorem great_nil (cap : Nat) (x : Int) (w : World) (hx1 : -9223372036854775808 ≤ x) (hx2 : x ≤ 9223372036854775807) :
    Calls Try.prog 4 #[.slice none 0 cap, .int .i64 x] w fun e w' => e = .returned (.bool true) ∧ Below w.heap.size w w' := by
  have hne := fun w => run_neq_slice_nil_any (P := Try.prog) w 22 3 none 0 cap 0 0 Try.underlying22
  have hlen : 0 ≤ 9223372036854775807 := by omega
  by_cases hxm : x < 9223372036854775807
  all_goals
    go_enter Try.func4, Try.ntmps4
    go_wp2_with (go_at_call 9; refine (bytes9 _ _ _ _ _ hlen).mono ?_; rintro e w' ⟨rfl, rfl⟩)
    refine wp_loop_rounds 1 ?_
    rw [rounds_succ]
    go_wp2_with (go_at_call 8; refine (zz_none _ _ _ _).mono ?_; rintro e w' ⟨rfl, rfl⟩)
    refine wp_loop_rounds 1 ?_
    rw [rounds_succ]
    go_wp2_with (go_at_call 8; refine (zz_none _ _ _ _).mono ?_; rintro e w' ⟨rfl, rfl⟩)
    go_ret
    exact ⟨rfl, Below.refl _ _⟩

/-- No element: a slice that is not nil. -/
theorem great_empty (ad : Addr) (cap : Nat) (x : Int) (w : World) (hx1 : -9223372036854775808 ≤ x) (hx2 : x ≤ 9223372036854775807) :
    Calls Try.prog 4 #[.slice (some ad) 0 cap, .int .i64 x] w fun e w' => e = .returned (.bool true) ∧ Below w.heap.size w w' := by
  have hne := fun w => run_neq_slice_nil_any (P := Try.prog) w 22 3 (some ad) 0 cap 0 0 Try.underlying22
  have hmk : ∀ w, (Instr.makeSlice 22 (.int .i64 0) (.int .i64 0)).run Try.prog w = .ok (.slice (some ⟨w.heap.size, 0, none⟩) 0 0) (w.alloc (.cells (madeCells #[.int .i64 0] 0) 3)) := run_make_row' (P := Try.prog) 22 3 (.int .i64 0) 8 Try.underlying22 Try.info3 rfl .i64 .i64 0 (by omega) (by omega)
  have hlen : 0 ≤ 9223372036854775807 := by omega
  by_cases hxm : x < 9223372036854775807
  all_goals
    go_enter Try.func4, Try.ntmps4
    go_wp2_with (go_at_call 9; refine (bytes9 _ _ _ _ _ hlen).mono ?_; rintro e w' ⟨rfl, rfl⟩)
    refine wp_loop_rounds 1 ?_
    rw [rounds_succ]
    go_wp2
    refine wp_loop_rounds 1 ?_
    rw [rounds_succ]
    go_wp2_with (go_at_call 8; refine (zz_none _ _ _ _).mono ?_; rintro e w' ⟨rfl, rfl⟩)
    refine wp_loop_rounds 1 ?_
    rw [rounds_succ]
    go_wp2_with (go_at_call 8; refine (zz_none _ _ _ _).mono ?_; rintro e w' ⟨rfl, rfl⟩)
    go_ret
    exact ⟨rfl, (Below.refl _ _).alloc (Nat.le_refl _) _⟩

end Go.Proofs.Qxb6604413a
