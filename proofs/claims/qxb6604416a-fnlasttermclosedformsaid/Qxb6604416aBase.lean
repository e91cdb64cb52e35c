/-
  Seat b6604416a: the shared walks below the two laws on lastTerm: zzEntriesOf, last, term, lastTerm, ZZlogLastTerm.
-/
import Derived.Test.Qxb6604416aRows
import Derived.WalkKit
import Derived.WalkSpells
import Derived.Below
import Derived.WalkSmall
import Derived.Deep.OwnRows
import Derived.Deep.QuietTactic
import Derived.BigQuiet
import Derived.Deep.Draws
namespace Go.Proofs.Qxb6604416a
open Go.RowKit

theorem dq1 {w w' : World} (h : ∃ m, w' = w.drewN m) (n : Nat) : ∃ m, w'.drewN n = w.drewN m := by
  obtain ⟨m, rfl⟩ := h
  exact ⟨_, World.drewN_drewN _ _ _⟩

/-- A slice of n terms at address a holds T 0, T 1, .. -/
def Row (w : World) (a : Option Addr) (n : Nat) (T : Nat → Int) : Prop :=
  ∀ j, j < n → ∃ b o, a = some ⟨b, o, none⟩ ∧ w.cell? ⟨b, o + j, none⟩ = some (.int .u64 (T j)) ∧ 0 ≤ T j ∧ T j ≤ 18446744073709551615

theorem Row.of_cells {w w' : World} {a : Option Addr} {n : Nat} {T : Nat → Int} (h : Row w a n T) (hc : ∀ b o v, w.cell? ⟨b, o, none⟩ = some v → w'.cell? ⟨b, o, none⟩ = some v) : Row w' a n T := by
  intro j hj
  obtain ⟨b, o, e, h1, h2⟩ := h j hj
  exact ⟨b, o, e, hc _ _ _ h1, h2⟩

theorem cells_below {w w' : World} (hb : Below w.heap.size w w') : ∀ b o v, w.cell? ⟨b, o, none⟩ = some v → w'.cell? ⟨b, o, none⟩ = some v := fun b o v h => by
  have hl : b < w.heap.size := World.block_lt_of_cell? w _ h
  exact (hb.cell (p := ⟨b, o, none⟩) hl).trans h

/-- An entry's zero cells. -/
def Z : Array Value := #[.int .u64 0, .bool false, .slice none 0 0, .slice none 0 0]
theorem Try.info33 : (Try.prog.info? 33).map (fun i => (i.zero, i.size, i.bytes)) = some (some (.agg Z), 4, 64) := by kernel_rfl

theorem run_make33 (n : Nat) (hn : n ≤ 65536) (w : World) : (Instr.makeSlice 25 (.int .i64 n) (.int .i64 n)).run Try.prog w = .ok (.slice (some ⟨w.heap.size, 0, none⟩) n n) (w.alloc (.cells (madeCells Z (n * 4)) 33)) := by
  obtain ⟨i, hi, hz, hs, hb⟩ := info_parts Try.info33
  have := run_make (P := Try.prog) w 25 33 i (.agg Z) Try.underlying25 hi hz .i64 .i64 n n (by omega) (Int.le_refl _) (by rw [hb]; omega) (by omega)
  simp only [Int.toNat_natCast, hs] at this
  exact this

/-- The new entries: of the first k the terms are laid. -/
def Ents (w : World) (g n k : Nat) (T : Nat → Int) : Prop := ∃ F : Nat → Value, w.rowIs g 33 (n * 4) F ∧ ∀ i, i < k → F (i * 4) = .int .u64 (T i)

theorem Ents.start (w : World) (n : Nat) (T : Nat → Int) : Ents (w.alloc (.cells (madeCells Z (n * 4)) 33)) w.heap.size n 0 T := by
  refine ⟨fun j => (madeCells Z (n * 4))[j]?.getD (.bool false), ?_, fun i hi => absurd hi (Nat.not_lt_zero _)⟩
  have := World.rowIs_alloc w (madeCells Z (n * 4)) 33 (fun j => (madeCells Z (n * 4))[j]?.getD (.bool false)) (fun i hi => by rw [Array.getElem?_eq_getElem hi]; rfl)
  rwa [size_madeCells] at this

theorem Ents.step {w : World} {g n k : Nat} {T : Nat → Int} (h : Ents w g n k T) : Ents (w.setCell ⟨g, k * 4, none⟩ (.int .u64 (T k))) g n (k + 1) T := by
  obtain ⟨F, hr, hF⟩ := h
  refine ⟨_, hr.set (k * 4) _, fun i hi => ?_⟩
  by_cases e : i = k
  · subst e; exact if_pos rfl
  · show (if i * 4 = k * 4 then _ else F (i * 4)) = _
    rw [if_neg (by omega)]
    exact hF i (by omega)

theorem Ents.cellAt {w : World} {g n k : Nat} {T : Nat → Int} (h : Ents w g n k T) {i : Nat} (hi : i < n) : (∃ v, w.cell? ⟨g, i * 4, none⟩ = some v) ∧ w.frozen? ⟨g, i * 4, none⟩ = false := by
  obtain ⟨F, hr, hF⟩ := h
  exact ⟨⟨_, hr.cell (by omega)⟩, hr.frozen _⟩

theorem Ents.term {w : World} {g n k : Nat} {T : Nat → Int} (h : Ents w g n k T) {i : Nat} (hi : i < n) (hk : i < k) : w.cell? ⟨g, i * 4, none⟩ = some (.int .u64 (T i)) := by
  obtain ⟨F, hr, hF⟩ := h
  rw [hr.cell (by omega), hF i hk]

set_option maxHeartbeats 1000000 in
theorem entries_any (a : Option Addr) (n c : Nat) (T : Nat → Int) (w : World) (hr : Row w a n T) (hn : n ≤ 65536) :
    Calls Try.prog 6 #[.slice a n c] w fun e w' => e = .returned (.slice (some ⟨w.heap.size, 0, none⟩) n n) ∧ (∀ i, i < n → w'.cell? ⟨w.heap.size, i * 4, none⟩ = some (.int .u64 (T i))) ∧ Below w.heap.size w w' := by
  have hmk := run_make33 n hn
  have R : Hid (Row w a n T) := hr
  clear hr
  go_enter Try.func6, Try.ntmps6
  go_wp2
  go_loopw [4] (fun s wr => ∃ i : Nat, s = .int .i64 i ∧ i ≤ n ∧ Ents wr w.heap.size n i T ∧ Below w.heap.size w wr) (fun s _ => n - (intOf s).toNat)
  case atStart => exact ⟨0, rfl, Nat.zero_le _, Ents.start w n T, (Below.refl _ _).alloc (Nat.le_refl _) _⟩
  case round =>
    obtain ⟨i, rfl, hi, hE, hB⟩ := hrel
    by_cases hlt : i < n
    · obtain ⟨b, o, rfl, x0, d1, d2⟩ := R.out i hlt
      have hb : b < w.heap.size := World.block_lt_of_cell? w _ x0
      have x1 : wr.cell? ⟨b, o + i, none⟩ = some (.int .u64 (T i)) := (hB.cell (p := ⟨b, o + i, none⟩) hb).trans x0
      obtain ⟨⟨gv, g1⟩, g2⟩ := hE.cellAt hlt
      have K : Hid (∀ y, T i = y → Ents (wr.setCell ⟨w.heap.size, i * 4, none⟩ (.int .u64 y)) w.heap.size n (i + 1) T) := fun y hy => by rw [← hy]; exact hE.step
      clear x0 hE
      generalize hy : T i = y at x1 d1 d2
      have Y : Hid (T i = y) := hy
      clear hy
      go_wp2
      go_roundw
      case rel => exact ⟨i + 1, by go_num, by omega, K.out y Y.out, hB.setCell (Nat.le_refl _) _⟩
      case measure => simp [intOf]; omega
    · obtain rfl : n = i := by omega
      go_wp2
      go_ret
      exact ⟨rfl, fun i hi => hE.term hi hi, hB⟩

/-- The log's own cells: the snapshot's index and term, no members, n entries at block g. -/
def Log (w : World) (h g n : Nat) (s t : Int) : Prop :=
  w.cell? ⟨h, 0, none⟩ = some (.int .u64 s) ∧ w.cell? ⟨h, 1, none⟩ = some (.int .u64 t) ∧ w.cell? ⟨h, 3, none⟩ = some (.slice (some ⟨g, 0, none⟩) n n)

theorem last_in (h g n : Nat) (s t : Int) (w : World) (hL : Log w h g n s t) (hn : n ≤ 65536) (h0 : 0 ≤ s) (h1 : s + n ≤ 18446744073709551615) :
    Calls Try.prog 12 #[.pointer (some ⟨h, 0, none⟩)] w fun e w' => e = .returned (.int .u64 (s + n)) ∧ ∃ q, w' = w.drewN q := by
  obtain ⟨c0, c1, c3⟩ := hL
  go_enter Try.func12, Try.ntmps12
  go_wp2
  go_quiet (fail)
  go_wp2
  go_ret
  exact ⟨rfl, dq1 ⟨0, rfl⟩ _⟩

theorem over_wrap {s : Int} {n : Nat} (hn : n ≤ 65536) (h0 : s ≤ 18446744073709551615) (h1 : 18446744073709551615 < s + n) : IntKind.u64.wrap (s + n) = s + n - 18446744073709551616 := by
  rw [IntKind.wrap_u64]
  omega

theorem last_over (h g n : Nat) (s t : Int) (w : World) (hL : Log w h g n s t) (hn : n ≤ 65536) (h0 : s ≤ 18446744073709551615) (h1 : 18446744073709551615 < s + n) :
    Calls Try.prog 12 #[.pointer (some ⟨h, 0, none⟩)] w fun e w' => e = .returned (.int .u64 (s + n - 18446744073709551616)) ∧ ∃ q, w' = w.drewN q := by
  obtain ⟨c0, c1, c3⟩ := hL
  go_enter Try.func12, Try.ntmps12
  go_wp2
  go_quiet (fail)
  go_wp2
  go_ret
  refine ⟨?_, dq1 ⟨0, rfl⟩ _⟩
  exact congrArg (fun x => Ending.returned (.int .u64 x)) (over_wrap hn h0 h1)

/-- No entry behind the snapshot: its own term. -/
theorem term_same (h g n : Nat) (s t : Int) (w : World) (hL : Log w h g n s t) :
    Calls Try.prog 11 #[.pointer (some ⟨h, 0, none⟩), .int .u64 s] w fun e w' => e = .returned (.tuple #[.int .u64 t, .bool true]) ∧ w' = w := by
  obtain ⟨c0, c1, c3⟩ := hL
  go_enter Try.func11, Try.ntmps11
  go_wp2
  go_ret2
  exact ⟨rfl, rfl⟩

/-- An index below the snapshot's: none. -/
theorem term_below (h g n : Nat) (s t i : Int) (w : World) (hL : Log w h g n s t) (hi : i < s) :
    Calls Try.prog 11 #[.pointer (some ⟨h, 0, none⟩), .int .u64 i] w fun e w' => e = .returned (.tuple #[.int .u64 0, .bool false]) ∧ w' = w := by
  obtain ⟨c0, c1, c3⟩ := hL
  have he : (i == s) = false := by simp; omega
  go_enter Try.func11, Try.ntmps11
  go_wp2
  go_ret2
  exact ⟨rfl, rfl⟩

/-- The last entry's index: its term. -/
theorem term_last (h g n : Nat) (s t i : Int) (T : Nat → Int) (w : World) (hL : Log w h g n s t) (hn : n ≤ 65536) (h0 : 0 ≤ s) (hpos : 0 < n) (hi : i = s + n) (h1 : i ≤ 18446744073709551615)
    (hT : w.cell? ⟨g, (n - 1) * 4, none⟩ = some (.int .u64 (T (n - 1)))) :
    Calls Try.prog 11 #[.pointer (some ⟨h, 0, none⟩), .int .u64 i] w fun e w' => e = .returned (.tuple #[.int .u64 (T (n - 1)), .bool true]) ∧ ∃ q, w' = w.drewN q := by
  have C := last_in h g n s t w hL hn h0 (by omega)
  rw [← hi] at C
  obtain ⟨c0, c1, c3⟩ := hL
  have hc : w.cell? ⟨g, ((i - s).toNat - 1) * 4, none⟩ = some (.int .u64 (T (n - 1))) := by
    rw [show (i - s).toNat - 1 = n - 1 by omega]
    exact hT
  have b1 : s < i := by omega
  have b2 : i - s - 1 < n := by omega
  have b3 : 0 ≤ i - s - 1 := by omega
  have he : (i == s) = false := by simp; omega
  have hlt : ¬ i < s := by omega
  clear hT hi
  generalize T (n - 1) = y at hc
  go_enter Try.func11, Try.ntmps11
  go_wp2_with fail
  refine C.mono ?_
  rintro e w1 ⟨rfl, q, rfl⟩
  clear C
  go_wp2
  go_quiet (fail)
  go_wp2
  go_ret2
  exact ⟨rfl, dq1 ⟨q, rfl⟩ _⟩

/-- What lastTerm answers. -/
def lt (s t : Int) (n : Nat) (T : Nat → Int) : Int := if n = 0 then t else if s + n ≤ 18446744073709551615 then T (n - 1) else 0

theorem lt_none {s t : Int} {T : Nat → Int} : lt s t 0 T = t := if_pos rfl
theorem lt_in {s t : Int} {n : Nat} {T : Nat → Int} (h0 : 0 < n) (h1 : s + n ≤ 18446744073709551615) : lt s t n T = T (n - 1) := by unfold lt; rw [if_neg (by omega), if_pos h1]
theorem lt_over {s t : Int} {n : Nat} {T : Nat → Int} (h0 : 0 < n) (h1 : 18446744073709551615 < s + n) : lt s t n T = 0 := by unfold lt; rw [if_neg (by omega), if_neg (by omega)]

theorem Log.drewN {w : World} {h g n : Nat} {s t : Int} (hL : Log w h g n s t) (q : Nat) : Log (w.drewN q) h g n s t := hL

theorem lastTerm_any (h g n : Nat) (s t : Int) (T : Nat → Int) (w : World) (hL : Log w h g n s t) (hn : n ≤ 65536) (h0 : 0 ≤ s) (h1 : s ≤ 18446744073709551615) (hT : ∀ i, i < n → w.cell? ⟨g, i * 4, none⟩ = some (.int .u64 (T i))) :
    Calls Try.prog 10 #[.pointer (some ⟨h, 0, none⟩)] w fun e w' => e = .returned (.int .u64 (lt s t n T)) ∧ ∃ q, w' = w.drewN q := by
  have L : Hid (Log w h g n s t) := hL
  clear hL
  by_cases hov : s + n ≤ 18446744073709551615
  · have C1 := last_in h g n s t w L.out hn h0 hov
    by_cases hz : n = 0
    · have E : Hid (lt s t n T = t) := by rw [hz]; exact lt_none
      have e0 : s + (n : Int) = s := by omega
      rw [e0] at C1
      have C2 : ∀ q, Calls Try.prog 11 #[.pointer (some ⟨h, 0, none⟩), .int .u64 s] (w.drewN q) fun e w' => e = .returned (.tuple #[.int .u64 t, .bool true]) ∧ w' = w.drewN q := fun q => term_same h g n s t (w.drewN q) (L.out.drewN q)
      clear hT hz e0
      go_enter Try.func10, Try.ntmps10
      go_wp2_with fail
      refine C1.mono ?_
      rintro e w1 ⟨rfl, q, rfl⟩
      go_wp2_with fail
      refine (C2 q).mono ?_
      rintro e w1 ⟨rfl, rfl⟩
      clear C1 C2
      go_wp2
      go_ret
      exact ⟨by rw [E.out]; rfl, q, rfl⟩
    · have E : Hid (lt s t n T = T (n - 1)) := lt_in (by omega) hov
      have C2 : ∀ q, Calls Try.prog 11 #[.pointer (some ⟨h, 0, none⟩), .int .u64 (s + n)] (w.drewN q) fun e w' => e = .returned (.tuple #[.int .u64 (T (n - 1)), .bool true]) ∧ ∃ p, w' = (w.drewN q).drewN p := fun q => term_last h g n s t (s + n) T (w.drewN q) (L.out.drewN q) hn h0 (by omega) rfl hov (hT (n - 1) (by omega))
      clear hT
      generalize T (n - 1) = y at C2 E
      go_enter Try.func10, Try.ntmps10
      go_wp2_with fail
      refine C1.mono ?_
      rintro e w1 ⟨rfl, q, rfl⟩
      go_wp2_with fail
      refine (C2 q).mono ?_
      rintro e w1 ⟨rfl, p, rfl⟩
      clear C1 C2
      go_wp2
      go_ret
      exact ⟨by rw [E.out]; rfl, _, rfl⟩
  · have C1 := last_over h g n s t w L.out hn h1 (by omega)
    have E : Hid (lt s t n T = 0) := lt_over (by omega) (by omega)
    have hb : s + (n : Int) - 18446744073709551616 < s := by omega
    generalize s + (n : Int) - 18446744073709551616 = i at C1 hb
    have C2 : ∀ q, Calls Try.prog 11 #[.pointer (some ⟨h, 0, none⟩), .int .u64 i] (w.drewN q) fun e w' => e = .returned (.tuple #[.int .u64 0, .bool false]) ∧ w' = w.drewN q := fun q => term_below h g n s t i (w.drewN q) (L.out.drewN q) hb
    clear hT hov
    go_enter Try.func10, Try.ntmps10
    go_wp2_with fail
    refine C1.mono ?_
    rintro e w1 ⟨rfl, q, rfl⟩
    go_wp2_with fail
    refine (C2 q).mono ?_
    rintro e w1 ⟨rfl, rfl⟩
    clear C1 C2
    go_wp2
    go_ret
    exact ⟨by rw [E.out]; rfl, q, rfl⟩

theorem log_any (g n : Nat) (s t : Int) (T : Nat → Int) (w : World) (hn : n ≤ 65536) (h0 : 0 ≤ s) (h1 : s ≤ 18446744073709551615) (hT : ∀ i, i < n → w.cell? ⟨g, i * 4, none⟩ = some (.int .u64 (T i))) :
    Calls Try.prog 7 #[.int .u64 s, .int .u64 t, .slice none 0 0, .slice (some ⟨g, 0, none⟩) n n] w fun e w' => e = .returned (.int .u64 (lt s t n T)) ∧ Below w.heap.size w w' := by
  have hb : Below w.heap.size w (w.alloc (.cells #[.int .u64 s, .int .u64 t, .slice none 0 0, .slice (some ⟨g, 0, none⟩) n n] 36)) := (Below.refl _ w).alloc (Nat.le_refl _) _
  have hL : Log (w.alloc (.cells #[.int .u64 s, .int .u64 t, .slice none 0 0, .slice (some ⟨g, 0, none⟩) n n] 36)) w.heap.size g n s t := by
    refine ⟨?_, ?_, ?_⟩ <;> go_simp
  have C := lastTerm_any w.heap.size g n s t T _ hL hn h0 h1 (fun i hi => cells_below hb _ _ _ (hT i hi))
  clear hT hL
  go_enter Try.func7, Try.ntmps7
  go_wp2_with fail
  refine C.mono ?_
  rintro e w1 ⟨rfl, q, rfl⟩
  clear C
  go_wp2
  go_ret
  exact ⟨rfl, below_drewN hb _⟩

theorem model_any (a : Option Addr) (n c : Nat) (s t : Int) (T : Nat → Int) (w : World) (hr : Row w a n T) (hn : n ≤ 65536) (h0 : 0 ≤ s) (h1 : s ≤ 18446744073709551615) :
    Calls Try.prog 8 #[.int .u64 s, .int .u64 t, .slice a n c] w fun e w' => e = .returned (.int .u64 (lt s t n T)) ∧ w' = w := by
  by_cases hz : n = 0
  · subst hz
    go_enter Try.func8, Try.ntmps8
    go_wp2
    go_ret
    exact ⟨by rw [lt_none]; rfl, rfl⟩
  · by_cases hov : s + n ≤ 18446744073709551615
    · obtain ⟨b, o, rfl, x0, d1, d2⟩ := hr (n - 1) (by omega)
      have E : Hid (lt s t n T = T (n - 1)) := lt_in (by omega) hov
      generalize T (n - 1) = y at x0 d1 d2 E
      have hp : 0 < n := by omega
      clear hr
      go_enter Try.func8, Try.ntmps8
      go_wp2
      go_ret
      exact ⟨by rw [E.out]; rfl, rfl⟩
    · have E : Hid (lt s t n T = 0) := lt_over (by omega) (by omega)
      have hp : 0 < n := by omega
      clear hr
      go_enter Try.func8, Try.ntmps8
      go_wp2
      go_ret
      exact ⟨by rw [E.out]; rfl, rfl⟩

theorem bytes5 (a : Option Addr) (n c : Nat) (s t : Int) (w : World) (h : n ≤ 9223372036854775807) :
    Calls Try.prog 5 #[.int .u64 s, .int .u64 t, .slice a n c] w fun e w' => e = .returned (.bool (decide (n ≤ 1048576))) ∧ w = w' := by
  by_cases hl : n ≤ 1048576
  · go_enter Try.func5, Try.ntmps5
    go_wp2
    go_ret
    exact ⟨by rw [decide_eq_true hl]; rfl, rfl⟩
  · go_enter Try.func5, Try.ntmps5
    go_wp2
    go_ret
    exact ⟨by rw [decide_eq_false hl]; rfl, rfl⟩

theorem bytes9 (a : Option Addr) (n c : Nat) (s t k : Int) (w : World) (h : n ≤ 9223372036854775807) :
    Calls Try.prog 9 #[.int .u64 s, .int .u64 t, .slice a n c, .int .i64 k] w fun e w' => e = .returned (.bool (decide (n ≤ 1048576))) ∧ w = w' := by
  by_cases hl : n ≤ 1048576
  · go_enter Try.func9, Try.ntmps9
    go_wp2
    go_ret
    exact ⟨by rw [decide_eq_true hl]; rfl, rfl⟩
  · go_enter Try.func9, Try.ntmps9
    go_wp2
    go_ret
    exact ⟨by rw [decide_eq_false hl]; rfl, rfl⟩

end Go.Proofs.Qxb6604416a
