/-
  Seat b6604526a: the arguments opened: an array of 32 bytes; a slice of slices of bytes.
-/
import Derived.Test.Qxb6604526aZZSpan
import Derived.ProofKit
import Derived.OpenShut
import Derived.Deep.Slices
namespace Go.Proofs.Qxb6604526a
open Go.ChangeShapes Go.WideShapes Go.ChangeAt Go.RowKit

theorem Try.cells22 : Try.prog.cellsOf 22 = 32 := by kernel_rfl
theorem Try.cells5 : Try.prog.cellsOf 5 = 1 := by kernel_rfl
theorem Try.cells37 : Try.prog.cellsOf 37 = 1 := by kernel_rfl

section
variable {H : Type} {enc : TypeId × Value → H} {W : World} {base : Nat} {sp : Nat → Bool} {held : Bool}

theorem open_arr {v : Value} {d : DataW H} {p : List MemPlace} (h : DataW.Trod enc Try.prog W base sp held 22 v d p) : ∃ P : Nat → Int, v = .agg (arr P) ∧ ∀ j, j < 32 → 0 ≤ P j ∧ P j ≤ 255 := by
  obtain ⟨fuel, hf⟩ := h
  obtain ⟨xs, m, _, hx, hlen, hxs, hel⟩ := DataW.trod_array Try.underlying22 hf
  rw [Try.cells22] at hlen
  simp only [Try.cells5, Nat.mul_one] at hel
  have hc : ∀ i, i < 32 → ∃ z : Int, v.cells.toList[i]? = some (.int .u8 z) ∧ 0 ≤ z ∧ z ≤ 255 := fun i hi => by
    have h1 := hel i hi
    rw [List.getElem?_eq_getElem (show i < xs.length by omega)] at h1
    obtain ⟨z, h2, _, hw⟩ := DataW.trod_int Try.underlying5 h1
    have hb := bounds_u8 hw
    refine ⟨z, ?_, hb⟩
    have h3 := congrArg (fun l : List Value => l[0]?) h2
    simpa [List.getElem?_take, List.getElem?_drop] using h3
  obtain ⟨P, hP⟩ := Deep.choose_lt hc
  have hagg : ∃ cs, v = .agg cs := by
    cases v with
    | agg cs => exact ⟨cs, rfl⟩
    | _ => simp [Value.cells] at hlen
  obtain ⟨cs, rfl⟩ := hagg
  refine ⟨P, ?_, fun j hj => (hP j hj).2⟩
  congr 1
  apply Array.ext_getElem?
  intro i
  have hcs : cs.size = 32 := by simpa [Value.cells] using hlen
  by_cases hi : i < 32
  · rw [arr_get P i hi]
    have := (hP i hi).1
    simpa [Value.cells] using this
  · rw [Array.getElem?_eq_none (by omega), Array.getElem?_eq_none (by rw [arr_size]; omega)]

theorem open_row {V : Value} {x : DataW H × List MemPlace} {fuel : Nat} (h : DataW.trod enc Try.prog W base sp held fuel 37 [V] = some x) :
    ∃ l : Nat × (Nat → Int), ∃ ai ci, V = .slice ai l.1 ci ∧ l.1 ≤ 9223372036854775807 ∧ l.1 ≤ ci ∧ Row W ai l.1 l.2 := by
  rcases open_ints Try.underlying37 Try.underlying5 Try.cells5 h with ⟨hcs, _⟩ | ⟨a, len, cap, zs, hcs, _, hl, hm, hz, _, hcell, hwz⟩
  · simp only [List.cons.injEq, and_true] at hcs
    exact ⟨(0, fun _ => 0), none, 0, hcs, by omega, by omega, fun j hj => by omega⟩
  · simp only [List.cons.injEq, and_true] at hcs
    have hzl : len ≤ zs.length := by rw [hz]; split <;> omega
    refine ⟨(len, fun j => zs.getD j 0), some a, cap, hcs, by unfold maxLen at hm; show len ≤ _; omega, hl, ?_⟩
    show Row W (some a) len (fun j => zs.getD j 0)
    by_cases h0 : len = 0
    · subst h0
      exact fun j hj => by omega
    · obtain ⟨b, o, rfl, hc⟩ := ints_at hcell (by omega)
      intro j hj
      refine ⟨b, o, rfl, hc j (by omega), ?_⟩
      have hmem : zs.getD j 0 ∈ zs := by
        rw [List.getD_eq_getElem?_getD, List.getElem?_eq_getElem (show j < zs.length by omega)]
        exact List.getElem_mem _
      exact bounds_u8 (hwz _ hmem)

theorem open_ids {a : Option Addr} {n c : Nat} {d : DataW H} {p : List MemPlace} (h : DataW.Trod enc Try.prog W base sp held 29 (.slice a n c) d p) :
    n ≤ 9223372036854775807 ∧ ∃ (len : Nat → Nat) (X : Nat → Nat → Int), IDs W a n len X := by
  obtain ⟨fuel, hf⟩ := h
  rcases Deep.open_slice1 Try.underlying29 Try.cells37 hf with ⟨hcs, _⟩ | ⟨ad, len, cap, m, k, V, D, Pl, hcs, _, hl, hm, hmm, _, hV⟩
  · simp [Value.cells] at hcs
    obtain ⟨rfl, rfl, rfl⟩ := hcs
    exact ⟨by omega, fun _ => 0, fun _ _ => 0, fun i hi => by omega⟩
  · simp [Value.cells] at hcs
    obtain ⟨rfl, rfl, rfl⟩ := hcs
    have hml : n ≤ m := by rw [hmm]; split <;> omega
    refine ⟨by unfold maxLen at hm; omega, ?_⟩
    obtain ⟨L, hL⟩ := Deep.choose_lt (fun i (hi : i < n) => open_row (hV i (by omega)).2)
    refine ⟨fun i => (L i).1, fun i => (L i).2, fun i hi => ?_⟩
    obtain ⟨ai, ci, e, h1, h2, h3⟩ := hL i hi
    have hc := (hV i (by omega)).1
    obtain ⟨b, o, spot⟩ := ad
    have hspot : spot = none := by simpa [Addr.add] using World.cell?_spot (hV 0 (by omega)).1
    subst hspot
    refine ⟨b, o, ai, ci, rfl, ?_, h1, h2, h3⟩
    rw [← Go.WideShapes.add_plain, hc, e]

end
end Go.Proofs.Qxb6604526a
