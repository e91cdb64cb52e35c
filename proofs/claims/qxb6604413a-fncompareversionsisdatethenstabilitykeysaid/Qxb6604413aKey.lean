/-
  Seat b6604413a: the walk of FnCompareVersionsIsDateThenStabilityKey.
-/
import Derived.Test.Qxb6604413aVersions
import Derived.OpenShut
namespace Go.Proofs.Qxb6604413a
open Go.RowKit

theorem cv_key (d s d' s' : Int) (h1 : 0 ≤ s) (h2 : s ≤ 255) (h3 : 0 ≤ s') (h4 : s' ≤ 255) : cv d s d' s' = sg (d * 256 + s) (d' * 256 + s') := by
  unfold cv orr sg
  repeat' split
  all_goals omega

set_option maxHeartbeats 1000000 in
theorem key_walk (a0 a1 a2 a3 : Int) (w0 : (Lit.int .i32 a0).wf = true) (w1 : (Lit.int .u8 a1).wf = true) (w2 : (Lit.int .i32 a2).wf = true) (w3 : (Lit.int .u8 a3).wf = true) (w : World) :
    Calls Try.prog 5 #[.int .i32 a0, .int .u8 a1, .int .i32 a2, .int .u8 a3] w fun e w' => e = .returned (.bool true) ∧ Below w.heap.size w w' := by
  obtain ⟨b0, b0'⟩ := bounds_i32 w0
  obtain ⟨b1, b1'⟩ := bounds_u8 w1
  obtain ⟨b2, b2'⟩ := bounds_i32 w2
  obtain ⟨b3, b3'⟩ := bounds_u8 w3
  have K : Hid (cv a0 a1 a2 a3 = sg (a0 * 256 + a1) (a2 * 256 + a3)) := cv_key a0 a1 a2 a3 b1 b1' b3 b3'
  clear w0 w1 w2 w3
  by_cases h1 : a0 * 256 + a1 < a2 * 256 + a3
  · go_enter Try.func5, Try.ntmps5
    go_wp2_with (go_at_call 10; refine (ver10 _ _ _).mono ?_; rintro e w' ⟨rfl, rfl⟩)
    refine (cv11 _ _ _ _ _).mono ?_
    rintro e w1 ⟨rfl, hb⟩
    rw [K.out, sg_lt h1]
    go_wp2
    go_ret
    exact ⟨rfl, ((((((Below.refl _ w).alloc (Nat.le_refl _) _).alloc (by simp) _).alloc (by simp <;> omega) _).alloc (by simp <;> omega) _).trans (hb.mono (by simp <;> omega)))⟩
  · by_cases h2 : a2 * 256 + a3 < a0 * 256 + a1
    · go_enter Try.func5, Try.ntmps5
      go_wp2_with (go_at_call 10; refine (ver10 _ _ _).mono ?_; rintro e w' ⟨rfl, rfl⟩)
      refine (cv11 _ _ _ _ _).mono ?_
      rintro e w1 ⟨rfl, hb⟩
      rw [K.out, sg_gt h2]
      go_wp2
      go_ret
      exact ⟨rfl, ((((((Below.refl _ w).alloc (Nat.le_refl _) _).alloc (by simp) _).alloc (by simp <;> omega) _).alloc (by simp <;> omega) _).trans (hb.mono (by simp <;> omega)))⟩
    · go_enter Try.func5, Try.ntmps5
      go_wp2_with (go_at_call 10; refine (ver10 _ _ _).mono ?_; rintro e w' ⟨rfl, rfl⟩)
      refine (cv11 _ _ _ _ _).mono ?_
      rintro e w1 ⟨rfl, hb⟩
      rw [K.out, sg_eq (by omega)]
      go_wp2
      go_ret
      exact ⟨rfl, ((((((Below.refl _ w).alloc (Nat.le_refl _) _).alloc (by simp) _).alloc (by simp <;> omega) _).alloc (by simp <;> omega) _).trans (hb.mono (by simp <;> omega)))⟩

end Go.Proofs.Qxb6604413a
