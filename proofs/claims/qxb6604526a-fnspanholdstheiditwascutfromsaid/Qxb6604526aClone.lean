/-
  Seat b6604526a: zzCloneBytes2D: a deep copy of a slice of slices of bytes.
-/
import Derived.Test.Qxb6604526aSorted
import Derived.Deep.OwnRows
namespace Go.Proofs.Qxb6604526a
open Go.RowKit

theorem Try.info5 : (Try.prog.info? 5).map (fun i => (i.zero, i.size, i.bytes)) = some (some (.int .u8 0), 1, 1) := by kernel_rfl
theorem Try.info37 : (Try.prog.info? 37).map (fun i => (i.zero, i.size, i.bytes)) = some (some (.slice none 0 0), 1, 24) := by kernel_rfl

theorem Row.keep {w w' : World} {a : Option Addr} {n : Nat} {f : Nat → Int} (h : Row w a n f) (hk : ∀ b o, a = some ⟨b, o, none⟩ → w'.heap[b]? = w.heap[b]?) : Row w' a n f := by
  intro j hj
  obtain ⟨b, o, e, h1, h2⟩ := h j hj
  exact ⟨b, o, e, (World.cell?_of_block (w := w) (w' := w') (a := ⟨b, o + j, none⟩) (hk b o e)).trans h1, h2⟩

theorem Row.ofRow {w : World} {g n : Nat} {f : Nat → Int} {F : Nat → Value} (h : w.rowIs g 5 n F) (hF : ∀ j, j < n → F j = .int .u8 (f j)) (hb : ∀ j, j < n → 0 ≤ f j ∧ f j ≤ 255) : Row w (some ⟨g, 0, none⟩) n f := by
  intro j hj
  exact ⟨g, 0, rfl, by rw [Nat.zero_add, h.cell hj, hF j hj], hb j hj⟩

/-- After i rounds: the first i elements of the new slice hold copies. -/
def Cloned (g n i : Nat) (len : Nat → Nat) (X : Nat → Nat → Int) (wr : World) : Prop :=
  ∃ V : Nat → Value, wr.rowIs g 37 n (fun j => if j < i then V j else .slice none 0 0) ∧
    ∀ j, j < i → ∃ aj cj, V j = .slice aj (len j) cj ∧ len j ≤ cj ∧ (∀ b o, aj = some ⟨b, o, none⟩ → g < b ∧ b < wr.heap.size) ∧ Row wr aj (len j) (X j)

theorem Cloned.start (w : World) (n : Nat) (len : Nat → Nat) (X : Nat → Nat → Int) : Cloned w.heap.size n 0 len X (w.alloc (.cells (madeCells #[.slice none 0 0] n) 37)) :=
  ⟨fun _ => .slice none 0 0, (World.rowIs_made w (.slice none 0 0) n 37).congr (fun i _ => by simp), fun j hj => absurd hj (Nat.not_lt_zero _)⟩

theorem Cloned.keep {g n i : Nat} {len : Nat → Nat} {X : Nat → Nat → Int} {wr wr' : World} (h : Cloned g n i len X wr) (hb : Below wr.heap.size wr wr') : Cloned g n i len X wr' := by
  obtain ⟨V, hr, hV⟩ := h
  refine ⟨V, hr.of_block (hb.block _ hr.lt), fun j hj => ?_⟩
  obtain ⟨aj, cj, e, hl, hbl, hrow⟩ := hV j hj
  exact ⟨aj, cj, e, hl, fun b o e' => ⟨(hbl b o e').1, Nat.lt_of_lt_of_le (hbl b o e').2 hb.size⟩, hrow.keep (fun b o e' => hb.block _ (hbl b o e').2)⟩

/-- A nil element stays nil. -/
theorem Cloned.skip {g n i : Nat} {len : Nat → Nat} {X : Nat → Nat → Int} {wr : World} (h : Cloned g n i len X wr) (h0 : len i = 0) : Cloned g n (i + 1) len X wr := by
  obtain ⟨V, hr, hV⟩ := h
  refine ⟨fun j => if j < i then V j else .slice none 0 0, hr.congr (fun j hj => ?_), fun j hj => ?_⟩
  · by_cases e : j < i
    · simp only [if_pos e, if_pos (show j < i + 1 by omega)]
    · simp only [if_neg e]
      split <;> rfl
  · by_cases e : j < i
    · simp only [if_pos e]
      exact hV j e
    · obtain rfl : i = j := by omega
      simp only [if_neg e]
      exact ⟨none, 0, by rw [h0], by omega, (fun b o e' => by cases e'), (fun t ht => by omega)⟩

/-- A copy of the i-th element is laid. -/
theorem Cloned.put {g n i H c : Nat} {len : Nat → Nat} {X : Nat → Nat → Int} {wr : World} (h : Cloned g n i len X wr) (hH : g < H) (hH2 : H < wr.heap.size) (hc : len i ≤ c) (hrow : Row wr (some ⟨H, 0, none⟩) (len i) (X i)) :
    Cloned g n (i + 1) len X (wr.setCell ⟨g, i, none⟩ (.slice (some ⟨H, 0, none⟩) (len i) c)) := by
  obtain ⟨V, hr, hV⟩ := h
  have hsz : (wr.setCell ⟨g, i, none⟩ (.slice (some ⟨H, 0, none⟩) (len i) c)).heap.size = wr.heap.size := by simp [World.setCell]
  refine ⟨fun j => if j = i then .slice (some ⟨H, 0, none⟩) (len i) c else V j, (hr.set i _).congr (fun j hj => ?_), fun j hj => ?_⟩
  · by_cases e : j = i
    · simp only [if_pos e, if_pos (show j < i + 1 by omega)]
    · by_cases e2 : j < i
      · simp only [if_neg e, if_pos e2, if_pos (show j < i + 1 by omega)]
      · simp only [if_neg e, if_neg e2, if_neg (show ¬ j < i + 1 by omega)]
  · by_cases e : j = i
    · subst e
      simp only [if_true]
      refine ⟨_, c, rfl, hc, fun b o e' => ?_, hrow.keep (fun b o e' => ?_)⟩
      · simp only [Option.some.injEq, Addr.mk.injEq] at e'
        rw [hsz]; omega
      · simp only [Option.some.injEq, Addr.mk.injEq] at e'
        exact Below.heap_setCell _ _ _ _ (by show b ≠ g; omega)
    · simp only [if_neg e]
      obtain ⟨aj, cj, e1, hl, hbl, hrow2⟩ := hV j (by omega)
      refine ⟨aj, cj, e1, hl, fun b o e' => by rw [hsz]; exact hbl b o e', hrow2.keep (fun b o e' => ?_)⟩
      exact Below.heap_setCell _ _ _ _ (by have := (hbl b o e').1; show b ≠ g; omega)

theorem Cloned.cellAt {g n i : Nat} {len : Nat → Nat} {X : Nat → Nat → Int} {wr : World} (h : Cloned g n i len X wr) {j : Nat} (hj : j < n) : (∃ v, wr.cell? ⟨g, j, none⟩ = some v) ∧ wr.frozen? ⟨g, j, none⟩ = false ∧ g < wr.heap.size := by
  obtain ⟨V, hr, hV⟩ := h
  exact ⟨⟨_, hr.cell hj⟩, hr.frozen j, hr.lt⟩

theorem Cloned.done {g n : Nat} {len : Nat → Nat} {X : Nat → Nat → Int} {wr : World} (h : Cloned g n n len X wr) (hl : ∀ i, i < n → len i ≤ 1048576) : IDs wr (some ⟨g, 0, none⟩) n len X := by
  obtain ⟨V, hr, hV⟩ := h
  intro i hi
  obtain ⟨ai, ci, e1, hl2, hbl, hrow⟩ := hV i hi
  refine ⟨g, 0, ai, ci, rfl, ?_, by have := hl i hi; omega, hl2, hrow⟩
  rw [Nat.zero_add, hr.cell hi]
  simp only [if_pos hi, e1]

set_option maxHeartbeats 2000000 in
theorem clone_some (ad : Addr) (n c : Nat) (len : Nat → Nat) (X : Nat → Nat → Int) (w : World) (h : IDs w (some ad) n len X) (hn : n ≤ 65536) (hlen : ∀ i, i < n → len i ≤ 1048576) :
    Calls Try.prog 15 #[.slice (some ad) n c] w fun e w' => (∃ a' c', e = .returned (.slice a' n c') ∧ n ≤ c' ∧ IDs w' a' n len X) ∧ Below w.heap.size w w' := by
  have hnil := fun w => Lib.run_eql_slice_nil (P := Try.prog) w 29 37 (some ad) n c 0 0 Try.underlying29
  have hnil2 := fun w a n c => Lib.run_eql_slice_nil (P := Try.prog) w 37 5 a n c 0 0 Try.underlying37
  have hmk := run_make_row' (P := Try.prog) 29 37 (.slice none 0 0) 24 Try.underlying29 Try.info37 rfl .i64 .i64 n (by omega) (by omega)
  have H : Hid (IDs w (some ad) n len X) := h
  have HL : Hid (∀ i, i < n → len i ≤ 1048576) := hlen
  clear h hlen
  go_enter Try.func15, Try.ntmps15
  go_wp2
  go_loopw [4] (fun s wr => ∃ i : Nat, s = .int .i64 i ∧ i ≤ n ∧ Cloned w.heap.size n i len X wr ∧ Below w.heap.size w wr) (fun s _ => n - (intOf s).toNat)
  case atStart => exact ⟨0, rfl, Nat.zero_le _, Cloned.start w n len X, (Below.refl _ _).alloc (Nat.le_refl _) _⟩
  case round =>
    obtain ⟨i, rfl, hi, hC, hB⟩ := hrel
    obtain ⟨wo, hwo⟩ : ∃ x, x = wr := ⟨wr, rfl⟩
    subst hwo
    by_cases hlt : i < n
    · obtain ⟨b, o, ai, ci, e, e0, l0, lc, r0⟩ := H.out i hlt
      simp only [Option.some.injEq] at e
      subst e
      have hb : b < w.heap.size := World.block_lt_of_cell? w _ e0
      have e1 : wo.cell? ⟨b, o + i, none⟩ = some (.slice ai (len i) ci) := (hB.cell (p := ⟨b, o + i, none⟩) hb).trans e0
      cases ai with
      | none =>
        have h0 : len i = 0 := by
          by_cases e : len i = 0
          · exact e
          · obtain ⟨_, _, e', _⟩ := r0 0 (by omega)
            cases e'
        have hC' := hC.skip h0
        clear r0
        generalize len i = n0 at e0 e1
        go_wp2
        go_roundw
        case rel => exact ⟨i + 1, by go_num, by omega, hC', hB⟩
        case measure => simp [intOf]; omega
      | some ax =>
        have hli := HL.out i hlt
        have hmk2 := run_make_row' (P := Try.prog) 37 5 (.int .u8 0) 1 Try.underlying37 Try.info5 rfl .i64 .i64 (len i) (by omega) (by omega)
        have R0 : Hid (Row w (some ax) (len i) (X i)) := r0
        have G := hC.cellAt hlt
        obtain ⟨⟨gv, g1⟩, g2, g3⟩ := G
        have hs := hB.size
        clear r0
        generalize hn0 : len i = n0 at e0 e1 hli hmk2 R0 l0 lc
        have N0 : Hid (len i = n0) := hn0
        clear hn0
        go_wp2
        go_loopw [6] (fun s wr => ∃ j : Nat, s = .int .i64 j ∧ j ≤ n0 ∧ wr.rowIs wo.heap.size 5 n0 (fun t => if t < j then .int .u8 (X i t) else .int .u8 0) ∧ Below wo.heap.size wo wr) (fun s _ => n0 - (intOf s).toNat)
        case atStart => exact ⟨0, rfl, Nat.zero_le _, (World.rowIs_made wo (.int .u8 0) n0 5).congr (fun i _ => by simp), (Below.refl _ _).alloc (Nat.le_refl _) _⟩
        case round =>
          obtain ⟨j, rfl, hj, hrow, hB2⟩ := hrel
          have e2 : wr.cell? ⟨b, o + i, none⟩ = some (.slice (some ax) n0 ci) := (hB2.cell (p := ⟨b, o + i, none⟩) (by show b < _; omega)).trans e1
          by_cases hlt2 : j < n0
          · obtain ⟨bx, ox, ex, x0, d1, d2⟩ := R0.out j hlt2
            simp only [Option.some.injEq] at ex
            subst ex
            have hbx : bx < w.heap.size := World.block_lt_of_cell? w _ x0
            have x2 : wr.cell? ⟨bx, ox + j, none⟩ = some (.int .u8 (X i j)) := (hB2.cell (p := ⟨bx, ox + j, none⟩) (by show bx < _; omega)).trans ((hB.cell (p := ⟨bx, ox + j, none⟩) hbx).trans x0)
            have co := hrow.cell hlt2
            have fo := hrow.frozen j
            have K : Hid (∀ v, v = X i j → (wr.setCell ⟨wo.heap.size, j, none⟩ (.int .u8 v)).rowIs wo.heap.size 5 n0 (fun t => if t < j + 1 then .int .u8 (X i t) else .int .u8 0)) := fun v hv => by
              refine (hrow.set j _).congr (fun t ht => ?_)
              by_cases e : t = j
              · subst e; rw [if_pos rfl, if_pos (by omega), hv]
              · rw [if_neg e]
                by_cases e2 : t < j
                · rw [if_pos e2, if_pos (by omega)]
                · rw [if_neg e2, if_neg (by omega)]
            generalize hy : X i j = y at x2 d1 d2
            have Y : Hid (X i j = y) := hy
            clear hy hrow
            go_wp2
            go_roundw
            case rel => exact ⟨j + 1, by go_num, by omega, K.out y Y.out.symm, hB2.setCell (Nat.le_refl _) _⟩
            case measure => simp [intOf]; omega
          · have hrow3 : Row wr (some ⟨wo.heap.size, 0, none⟩) (len i) (X i) := by
              rw [N0.out]
              refine Row.ofRow hrow (fun t ht => if_pos (by omega)) (fun t ht => ?_)
              obtain ⟨_, _, _, _, d⟩ := R0.out t ht
              exact d
            have hC2 := (hC.keep hB2).put (c := n0) g3 hrow.lt (by rw [N0.out]; exact Nat.le_refl _) hrow3
            rw [N0.out] at hC2
            have q1 : wr.cell? ⟨w.heap.size, i, none⟩ = some gv := (hB2.cell (p := ⟨w.heap.size, i, none⟩) g3).trans g1
            have q2 : wr.frozen? ⟨w.heap.size, i, none⟩ = false := (hB2.frozen (p := ⟨w.heap.size, i, none⟩) g3).trans g2
            have hB3 : Below w.heap.size w (wr.setCell ⟨w.heap.size, i, none⟩ (.slice (some ⟨wo.heap.size, 0, none⟩) n0 n0)) := (hB.trans (hB2.mono hs)).setCell (Nat.le_refl _) _
            clear hrow hrow3
            go_wp2
            go_roundw
            case rel => exact ⟨i + 1, by go_num, by omega, hC2, hB3⟩
            case measure => simp [intOf]; omega
    · obtain rfl : n = i := by omega
      go_wp2
      go_ret
      exact ⟨⟨_, _, rfl, Nat.le_refl _, hC.done HL.out⟩, hB⟩

theorem clone_none (c : Nat) (len : Nat → Nat) (X : Nat → Nat → Int) (w : World) :
    Calls Try.prog 15 #[.slice none 0 c] w fun e w' => (∃ a' c', e = .returned (.slice a' 0 c') ∧ 0 ≤ c' ∧ IDs w' a' 0 len X) ∧ Below w.heap.size w w' := by
  have hnil := fun w => Lib.run_eql_slice_nil (P := Try.prog) w 29 37 none 0 c 0 0 Try.underlying29
  go_enter Try.func15, Try.ntmps15
  go_wp2
  go_ret
  exact ⟨⟨_, _, rfl, Nat.zero_le _, fun i hi => absurd hi (Nat.not_lt_zero _)⟩, Below.refl _ _⟩

theorem clone_any (a : Option Addr) (n c : Nat) (len : Nat → Nat) (X : Nat → Nat → Int) (w : World) (h : IDs w a n len X) (hn : n ≤ 65536) (hlen : ∀ i, i < n → len i ≤ 1048576) :
    Calls Try.prog 15 #[.slice a n c] w fun e w' => (∃ a' c', e = .returned (.slice a' n c') ∧ n ≤ c' ∧ IDs w' a' n len X) ∧ Below w.heap.size w w' := by
  cases a with
  | none =>
    have h0 : n = 0 := by
      by_cases e : n = 0
      · exact e
      · obtain ⟨_, _, _, _, e', _⟩ := h 0 (by omega)
        cases e'
    subst h0
    exact clone_none c len X w
  | some ad => exact clone_some ad n c len X w h hn hlen

end Go.Proofs.Qxb6604526a
