/-
  Seat b6604526a: what the walks are told of the rows that come in, and the walks of the functions that only read them.
-/
import Derived.Test.Qxb6604526aRows
import Derived.Test.Qxb6604526aPlain
import Derived.WalkKit
import Derived.WalkSpells
import Derived.Below
import Derived.WalkSmall
import Derived.Deep.QuietTactic
import Derived.BigQuiet
import Derived.Deep.Draws
namespace Go.Proofs.Qxb6604526a
open Go.RowKit

/-- A slice of n bytes at address a holds f 0, f 1, .. -/
def Row (w : World) (a : Option Addr) (n : Nat) (f : Nat → Int) : Prop :=
  ∀ j, j < n → ∃ b o, a = some ⟨b, o, none⟩ ∧ w.cell? ⟨b, o + j, none⟩ = some (.int .u8 (f j)) ∧ 0 ≤ f j ∧ f j ≤ 255

theorem Row.at {w : World} {a : Option Addr} {n : Nat} {f : Nat → Int} (h : Row w a n f) (h0 : 0 < n) :
    ∃ b o, a = some ⟨b, o, none⟩ ∧ ∀ j, j < n → w.cell? ⟨b, o + j, none⟩ = some (.int .u8 (f j)) ∧ 0 ≤ f j ∧ f j ≤ 255 := by
  obtain ⟨b, o, rfl, _⟩ := h 0 h0
  refine ⟨b, o, rfl, fun j hj => ?_⟩
  obtain ⟨b', o', e, h1, h2⟩ := h j hj
  simp only [Option.some.injEq, Addr.mk.injEq] at e
  obtain ⟨rfl, rfl, _⟩ := e
  exact ⟨h1, h2⟩

theorem Row.lit {w : World} {b o n : Nat} {f : Nat → Int} (h : Row w (some ⟨b, o, none⟩) n f) {j : Nat} (hj : j < n) : w.cell? ⟨b, o + j, none⟩ = some (.int .u8 (f j)) ∧ 0 ≤ f j ∧ f j ≤ 255 := by
  obtain ⟨b', o', e, h1, h2⟩ := h j hj
  simp only [Option.some.injEq, Addr.mk.injEq] at e
  obtain ⟨rfl, rfl, _⟩ := e
  exact ⟨h1, h2⟩

theorem Row.of_cells {w w' : World} {a : Option Addr} {n : Nat} {f : Nat → Int} (h : Row w a n f) (hc : ∀ b o v, w.cell? ⟨b, o, none⟩ = some v → w'.cell? ⟨b, o, none⟩ = some v) : Row w' a n f := by
  intro j hj
  obtain ⟨b, o, e, h1, h2⟩ := h j hj
  exact ⟨b, o, e, hc _ _ _ h1, h2⟩

theorem cells_below {w w' : World} (hb : Below w.heap.size w w') : ∀ b o v, w.cell? ⟨b, o, none⟩ = some v → w'.cell? ⟨b, o, none⟩ = some v := fun b o v h => by
  have hl : b < w.heap.size := World.block_lt_of_cell? w _ h
  exact (hb.cell (p := ⟨b, o, none⟩) hl).trans h

theorem Row.drewN {w : World} {a : Option Addr} {n : Nat} {f : Nat → Int} (h : Row w a n f) (q : Nat) : Row (w.drewN q) a n f := h

/-- A slice of n slices at address a: the i-th holds len i bytes, X i 0, X i 1, .. -/
def IDs (w : World) (a : Option Addr) (n : Nat) (len : Nat → Nat) (X : Nat → Nat → Int) : Prop :=
  ∀ i, i < n → ∃ b o ai ci, a = some ⟨b, o, none⟩ ∧ w.cell? ⟨b, o + i, none⟩ = some (.slice ai (len i) ci) ∧ len i ≤ 9223372036854775807 ∧ len i ≤ ci ∧ Row w ai (len i) (X i)

theorem IDs.lit {w : World} {b o n : Nat} {len : Nat → Nat} {X : Nat → Nat → Int} (h : IDs w (some ⟨b, o, none⟩) n len X) {i : Nat} (hi : i < n) :
    ∃ ai ci, w.cell? ⟨b, o + i, none⟩ = some (.slice ai (len i) ci) ∧ len i ≤ 9223372036854775807 ∧ len i ≤ ci ∧ Row w ai (len i) (X i) := by
  obtain ⟨b', o', ai, ci, e, h1⟩ := h i hi
  simp only [Option.some.injEq, Addr.mk.injEq] at e
  obtain ⟨rfl, rfl, _⟩ := e
  exact ⟨ai, ci, h1⟩

theorem IDs.of_cells {w w' : World} {a : Option Addr} {n : Nat} {len : Nat → Nat} {X : Nat → Nat → Int} (h : IDs w a n len X) (hc : ∀ b o v, w.cell? ⟨b, o, none⟩ = some v → w'.cell? ⟨b, o, none⟩ = some v) : IDs w' a n len X := by
  intro i hi
  obtain ⟨b, o, ai, ci, e, h1, h2, h3, h4⟩ := h i hi
  exact ⟨b, o, ai, ci, e, hc _ _ _ h1, h2, h3, h4.of_cells hc⟩

theorem nib_any (a : Option Addr) (n c : Nat) (f : Nat → Int) (j : Nat) (w : World) (h : Row w a n f) (hj : j / 2 < n) (hn : n ≤ 9223372036854775807) :
    Calls Try.prog 34 #[.slice a n c, .int .i64 j] w fun e w' => e = .returned (.int .u8 (nib f j)) ∧ w = w' := by
  obtain ⟨b, o, rfl, hc, h1, h2⟩ := h (j / 2) hj
  have hjb : (j : Int) ≤ 18446744073709551614 := by omega
  clear h
  by_cases hp : j % 2 = 0
  · have hp' : (j : Int) % 2 = 0 := by omega
    go_enter Try.func34, Try.ntmps34
    go_wp2
    go_ret
    refine ⟨?_, rfl⟩
    rw [nib_even hp]
    clear hc
    simp
    done
  · have hp' : (j : Int) % 2 = 1 := by omega
    go_enter Try.func34, Try.ntmps34
    go_wp2
    go_ret
    refine ⟨?_, rfl⟩
    rw [nib_odd hp]
    clear hc
    simp
    done

theorem nib_bd {w : World} {a : Option Addr} {n : Nat} {f : Nat → Int} (h : Row w a n f) {j : Nat} (hj : j / 2 < n) : 0 ≤ nib f j ∧ nib f j ≤ 15 := by
  obtain ⟨_, _, _, _, h1, h2⟩ := h (j / 2) hj
  unfold nib
  split <;> omega

set_option maxHeartbeats 400000 in
theorem digits_any (ax ay : Option Addr) (nx cx ny cy d : Nat) (f g : Nat → Int) (w : World) (hx : Row w ax nx f) (hy : Row w ay ny g) (hdx : (d + 1) / 2 ≤ nx) (hdy : (d + 1) / 2 ≤ ny) (hd : d ≤ 64)
    (hnx : nx ≤ 9223372036854775807) (hny : ny ≤ 9223372036854775807) :
    Calls Try.prog 17 #[.slice ax nx cx, .slice ay ny cy, .int .i64 d] w fun e w' => e = .returned (.int .i64 (cmpN (nib f) (nib g) d)) ∧ w = w' := by
  have HX : Hid (Row w ax nx f) := hx
  have HY : Hid (Row w ay ny g) := hy
  clear hx hy
  go_enter Try.func17, Try.ntmps17
  go_wp2
  go_loop [7] (fun s => ∃ j : Nat, j ≤ d ∧ s = .int .i64 j ∧ Hid (cmpN (nib f) (nib g) j = 0)) (fun s => d - (intOf s).toNat)
  case atStart => exact ⟨0, Nat.zero_le _, rfl, (show Hid _ from rfl)⟩
  case round =>
    obtain ⟨j, hj, rfl, I⟩ := hrel
    by_cases hlt : j < d
    · have C1 := nib_any ax nx cx f j w HX.out (by omega) hnx
      have C2 := nib_any ay ny cy g j w HY.out (by omega) hny
      have bx := nib_bd HX.out (j := j) (by omega)
      have byy := nib_bd HY.out (j := j) (by omega)
      have stop : nib f j ≠ nib g j → cmpN (nib f) (nib g) d = sg (nib f j) (nib g j) := fun h => cmpN_stop I.out h hlt
      have go : nib f j = nib g j → cmpN (nib f) (nib g) (j + 1) = 0 := fun h => cmpN_same I.out h
      have T : Hid ((nib f j ≠ nib g j → cmpN (nib f) (nib g) d = sg (nib f j) (nib g j)) ∧ (nib f j = nib g j → cmpN (nib f) (nib g) (j + 1) = 0)) := ⟨stop, go⟩
      clear stop go
      generalize nib f j = u at *
      generalize nib g j = v at *
      rcases Int.lt_trichotomy u v with h | h | h
      · go_wp2_with fail
        refine C1.mono ?_
        rintro e w' ⟨rfl, rfl⟩
        go_wp2_with fail
        refine C2.mono ?_
        rintro e w' ⟨rfl, rfl⟩
        clear C1 C2
        go_wp2
        go_ret
        exact ⟨by rw [T.out.1 (by omega), sg_lt h]; rfl, rfl⟩
      · go_wp2_with fail
        refine C1.mono ?_
        rintro e w' ⟨rfl, rfl⟩
        go_wp2_with fail
        refine C2.mono ?_
        rintro e w' ⟨rfl, rfl⟩
        clear C1 C2
        have T2 := T.out.2 h
        have TH : Hid (cmpN (nib f) (nib g) (j + 1) = 0) := T2
        clear T2
        subst h
        go_wp2
        go_round
        case rel => exact ⟨j + 1, by omega, by go_num, TH⟩
        case measure => simp [intOf]; omega
      · go_wp2_with fail
        refine C1.mono ?_
        rintro e w' ⟨rfl, rfl⟩
        go_wp2_with fail
        refine C2.mono ?_
        rintro e w' ⟨rfl, rfl⟩
        clear C1 C2
        go_wp2
        go_ret
        exact ⟨by rw [T.out.1 (by omega), sg_gt h]; rfl, rfl⟩
    · obtain rfl : j = d := by omega
      go_wp2
      go_ret
      exact ⟨by rw [I.out]; rfl, rfl⟩

end Go.Proofs.Qxb6604526a
