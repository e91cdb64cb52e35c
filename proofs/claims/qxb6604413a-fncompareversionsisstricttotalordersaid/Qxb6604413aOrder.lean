/-
  Seat b6604413a: the walk of FnCompareVersionsIsStrictTotalOrder.
-/
import Derived.Test.Qxb6604413aVersions
import Derived.OpenShut
namespace Go.Proofs.Qxb6604413a
open Go.RowKit

/-- The cells of three boxes, each kept beside a copy of itself. -/
def Boxes (H : Nat) (a0 a1 a2 a3 a4 a5 : Int) (w : World) : Prop :=
  w.cell? ⟨H + 1, 0, none⟩ = some (.int .i32 a0) ∧ w.cell? ⟨H + 1, 1, none⟩ = some (.int .u8 a1) ∧
  w.cell? ⟨H + 1 + 1 + 1, 0, none⟩ = some (.int .i32 a2) ∧ w.cell? ⟨H + 1 + 1 + 1, 1, none⟩ = some (.int .u8 a3) ∧
  w.cell? ⟨H + 1 + 1 + 1 + 1 + 1, 0, none⟩ = some (.int .i32 a4) ∧ w.cell? ⟨H + 1 + 1 + 1 + 1 + 1, 1, none⟩ = some (.int .u8 a5) ∧ H + 6 ≤ w.heap.size

theorem Boxes.below {H : Nat} {a0 a1 a2 a3 a4 a5 : Int} {w w' : World} (h : Boxes H a0 a1 a2 a3 a4 a5 w) (hb : Below w.heap.size w w') : Boxes H a0 a1 a2 a3 a4 a5 w' := by
  obtain ⟨c0, c1, c2, c3, c4, c5, hs⟩ := h
  have e := (fun (b o : Nat) (h : b < w.heap.size) => hb.cell (p := ⟨b, o, none⟩) h)
  refine ⟨(e _ _ ?_).trans c0, (e _ _ ?_).trans c1, (e _ _ ?_).trans c2, (e _ _ ?_).trans c3, (e _ _ ?_).trans c4, (e _ _ ?_).trans c5, Nat.le_trans hs hb.size⟩
  all_goals omega

theorem Boxes.new (a0 a1 a2 a3 a4 a5 : Int) (w : World) : Boxes w.heap.size a0 a1 a2 a3 a4 a5 ((((((w.alloc (.cells #[.int .i32 a0, .int .u8 a1] 28)).alloc (.cells #[.int .i32 a0, .int .u8 a1] 28)).alloc (.cells #[.int .i32 a2, .int .u8 a3] 28)).alloc (.cells #[.int .i32 a2, .int .u8 a3] 28)).alloc (.cells #[.int .i32 a4, .int .u8 a5] 28)).alloc (.cells #[.int .i32 a4, .int .u8 a5] 28)) := by
  refine ⟨?_, ?_, ?_, ?_, ?_, ?_, ?_⟩
  all_goals (go_simp <;> omega)

theorem eq_ver (a0 a1 a2 a3 : Int) (w : World) : (binOp .eql 28 (.agg #[.int .i32 a0, .int .u8 a1]) (.agg #[.int .i32 a2, .int .u8 a3])).run Try.prog w = .ok (.bool (cv a0 a1 a2 a3 == 0)) w := by
  have e : (cv a0 a1 a2 a3 == 0) = (a0 == a2 && a1 == a3) := by
    rw [Bool.eq_iff_iff]
    simp only [Bool.and_eq_true, beq_iff_eq]
    unfold cv orr sg
    repeat' split
    all_goals omega
  rw [e]
  by_cases h0 : a0 = a2
  · by_cases h1 : a1 = a3
    · subst h0 h1
      go_simp
    · subst h0
      have h1' : (a1 == a3) = false := by simp [h1]
      go_simp
  · have h0' : (a0 == a2) = false := by simp [h0]
    go_simp

theorem cv_cases (d s d' s' : Int) : (cv d s d' s' = -1 ∧ (d < d' ∨ d = d' ∧ s < s')) ∨ (cv d s d' s' = 0 ∧ d = d' ∧ s = s') ∨ (cv d s d' s' = 1 ∧ (d' < d ∨ d = d' ∧ s' < s)) := by
  unfold cv orr sg
  repeat' split
  all_goals omega

/-- The three answers, in all thirteen ways in which three versions can stand. -/
theorem three_ways (a0 a1 a2 a3 a4 a5 : Int) {p q r t : Int} (hp : cv a0 a1 a2 a3 = p) (hq : cv a2 a3 a0 a1 = q) (hr : cv a2 a3 a4 a5 = r) (ht : cv a0 a1 a4 a5 = t) :
    q = -p ∧ ((p = -1 ∧ r = -1 ∧ t = -1) ∨ (p = -1 ∧ r = 0 ∧ t = -1) ∨ (p = -1 ∧ r = 1 ∧ (t = -1 ∨ t = 0 ∨ t = 1)) ∨ (p = 0 ∧ (r = -1 ∨ r = 0 ∨ r = 1) ∧ t = r) ∨ (p = 1 ∧ r = -1 ∧ (t = -1 ∨ t = 0 ∨ t = 1)) ∨ (p = 1 ∧ r = 0 ∧ t = 1) ∨ (p = 1 ∧ r = 1 ∧ t = 1)) := by
  have h1 := cv_cases a0 a1 a2 a3
  have h2 := cv_cases a2 a3 a0 a1
  have h3 := cv_cases a2 a3 a4 a5
  have h4 := cv_cases a0 a1 a4 a5
  rw [hp] at h1
  rw [hq] at h2
  rw [hr] at h3
  rw [ht] at h4
  clear hp hq hr ht
  refine ⟨by clear h3 h4; omega, ?_⟩
  clear h2
  rcases h1 with ⟨rfl, h1⟩ | ⟨rfl, h1⟩ | ⟨rfl, h1⟩ <;> rcases h3 with ⟨rfl, h3⟩ | ⟨rfl, h3⟩ | ⟨rfl, h3⟩ <;> rcases h4 with ⟨rfl, h4⟩ | ⟨rfl, h4⟩ | ⟨rfl, h4⟩
  all_goals first | (simp; done) | (exfalso; omega)

set_option maxHeartbeats 1000000 in
theorem order_walk (a0 a1 a2 a3 a4 a5 : Int) (w : World) :
    Calls Try.prog 6 #[.int .i32 a0, .int .u8 a1, .int .i32 a2, .int .u8 a3, .int .i32 a4, .int .u8 a5] w fun e w' => e = .returned (.bool true) ∧ Below w.heap.size w w' := by
  go_enter Try.func6, Try.ntmps6
  go_wp2_with (go_at_call 10; refine (ver10 _ _ _).mono ?_; rintro e w' ⟨rfl, rfl⟩)
  refine (cv11 _ _ _ _ _).mono ?_
  rintro e w1 ⟨rfl, hb1⟩
  have B1 : Boxes w.heap.size a0 a1 a2 a3 a4 a5 w1 := (Boxes.new a0 a1 a2 a3 a4 a5 w).below hb1
  have L1 : Below w.heap.size w w1 := by
    refine Below.trans ?_ (hb1.mono (by simp <;> omega))
    repeat (first | exact Below.refl _ _ | (refine Below.alloc ?_ (by simp <;> omega) _))
  clear hb1
  generalize hp : cv a0 a1 a2 a3 = p
  obtain ⟨c0, c1, c2, c3, c4, c5, hs⟩ := id B1
  go_wp2_with fail
  refine (cv11 _ _ _ _ _).mono ?_
  rintro e w2 ⟨rfl, hb2⟩
  have B2 := B1.below hb2
  have L2 := L1.trans (hb2.mono L1.size)
  clear hb2 c0 c1 c2 c3 c4 c5 hs B1 L1
  generalize hq : cv a2 a3 a0 a1 = q
  obtain ⟨c0, c1, c2, c3, c4, c5, hs⟩ := id B2
  go_wp2_with fail
  refine (cv11 _ _ _ _ _).mono ?_
  rintro e w3 ⟨rfl, hb3⟩
  have B3 := B2.below hb3
  have L3 := L2.trans (hb3.mono L2.size)
  clear hb3 c0 c1 c2 c3 c4 c5 hs B2 L2
  generalize hr : cv a2 a3 a4 a5 = r
  obtain ⟨c0, c1, c2, c3, c4, c5, hs⟩ := id B3
  go_wp2_with fail
  refine (cv11 _ _ _ _ _).mono ?_
  rintro e w4 ⟨rfl, hb4⟩
  have B4 := B3.below hb4
  have L4 := L3.trans (hb4.mono L3.size)
  clear hb4 c0 c1 c2 c3 c4 c5 hs B3 L3
  generalize ht : cv a0 a1 a4 a5 = t
  obtain ⟨c0, c1, c2, c3, c4, c5, hs⟩ := id B4
  have e1 := eq_ver a0 a1 a2 a3
  have e2 := eq_ver a2 a3 a4 a5
  have e3 := eq_ver a0 a1 a4 a5
  obtain ⟨hqp, hh⟩ := three_ways a0 a1 a2 a3 a4 a5 hp hq hr ht
  rw [hp] at e1
  rw [hr] at e2
  rw [ht] at e3
  clear hp hq hr ht
  subst hqp
  rcases hh with ⟨rfl, rfl, rfl⟩ | ⟨rfl, rfl, rfl⟩ | ⟨rfl, rfl, rfl | rfl | rfl⟩ | ⟨rfl, rfl | rfl | rfl, rfl⟩ | ⟨rfl, rfl, rfl | rfl | rfl⟩ | ⟨rfl, rfl, rfl⟩ | ⟨rfl, rfl, rfl⟩
  all_goals
    go_wp2
    go_ret
    exact ⟨rfl, L4⟩

end Go.Proofs.Qxb6604413a
