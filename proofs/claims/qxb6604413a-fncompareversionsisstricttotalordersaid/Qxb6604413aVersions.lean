/-
  Seat b6604413a: the shared walks below the two laws on compareVersions: cmp.Compare, cmp.Or, compareVersions, ZZcompareVersions, zzVersion.
-/
import Derived.Test.Qxb6604413aRows
import Derived.WalkKit
import Derived.WalkSpells
import Derived.Below
import Derived.WalkSmall
import Derived.Deep.RegionHeld3
namespace Go.Proofs.Qxb6604413a
open Go.RowKit

/-- The sign of the difference. -/
def sg (a b : Int) : Int := if a < b then -1 else if b < a then 1 else 0

theorem sg_lt {a b : Int} (h : a < b) : sg a b = -1 := if_pos h
theorem sg_gt {a b : Int} (h : b < a) : sg a b = 1 := by unfold sg; rw [if_neg (by omega), if_pos h]
theorem sg_eq {a b : Int} (h : a = b) : sg a b = 0 := by unfold sg; rw [if_neg (by omega), if_neg (by omega)]

theorem comp16 (x y : Int) (w : World) : Calls Try.prog 16 #[.int .i32 x, .int .i32 y] w fun e w' => e = .returned (.int .i64 (sg x y)) ∧ w' = w := by
  by_cases h1 : x < y
  · go_enter Try.func16, Try.ntmps16
    go_wp2
    go_ret
    exact ⟨by rw [sg_lt h1]; rfl, rfl⟩
  · by_cases h2 : y < x
    · go_enter Try.func16, Try.ntmps16
      go_wp2
      go_ret
      exact ⟨by rw [sg_gt h2]; rfl, rfl⟩
    · go_enter Try.func16, Try.ntmps16
      go_wp2
      go_ret
      exact ⟨by rw [sg_eq (by omega)]; rfl, rfl⟩

theorem comp17 (x y : Int) (w : World) : Calls Try.prog 17 #[.int .u8 x, .int .u8 y] w fun e w' => e = .returned (.int .i64 (sg x y)) ∧ w' = w := by
  by_cases h1 : x < y
  · go_enter Try.func17, Try.ntmps17
    go_wp2
    go_ret
    exact ⟨by rw [sg_lt h1]; rfl, rfl⟩
  · by_cases h2 : y < x
    · go_enter Try.func17, Try.ntmps17
      go_wp2
      go_ret
      exact ⟨by rw [sg_gt h2]; rfl, rfl⟩
    · go_enter Try.func17, Try.ntmps17
      go_wp2
      go_ret
      exact ⟨by rw [sg_eq (by omega)]; rfl, rfl⟩

/-- The first that is not 0. -/
def orr (a b : Int) : Int := if a = 0 then b else a

theorem or_any (g : Nat) (a b : Int) (w : World) (c0 : w.cell? ⟨g, 0, none⟩ = some (.int .i64 a)) (c1 : w.cell? ⟨g, 1, none⟩ = some (.int .i64 b)) :
    Calls Try.prog 15 #[.slice (some ⟨g, 0, none⟩) 2 2] w fun e w' => e = .returned (.int .i64 (orr a b)) ∧ w' = w := by
  by_cases ha : a = 0
  · subst ha
    by_cases hb : b = 0
    · subst hb
      go_enter Try.func15, Try.ntmps15
      go_wp2
      refine wp_loop_rounds 3 ?_
      rw [rounds_succ]
      go_wp2
      rw [rounds_succ]
      go_wp2
      rw [rounds_succ]
      go_wp2
      go_ret
      exact ⟨rfl, rfl⟩
    · go_enter Try.func15, Try.ntmps15
      go_wp2
      refine wp_loop_rounds 2 ?_
      rw [rounds_succ]
      go_wp2
      rw [rounds_succ]
      go_wp2
      go_ret
      exact ⟨rfl, rfl⟩
  · go_enter Try.func15, Try.ntmps15
    go_wp2
    refine wp_loop_rounds 1 ?_
    rw [rounds_succ]
    go_wp2
    go_ret
    exact ⟨by unfold orr; rw [if_neg ha]; rfl, rfl⟩

/-- What compareVersions answers. -/
def cv (d s d' s' : Int) : Int := orr (sg d d') (sg s s')

set_option maxHeartbeats 1000000 in
theorem cv13 (d s d' s' : Int) (w : World) :
    Calls Try.prog 13 #[.agg #[.int .i32 d, .int .u8 s], .agg #[.int .i32 d', .int .u8 s']] w fun e w' => e = .returned (.int .i64 (cv d s d' s')) ∧ Below w.heap.size w w' := by
  go_enter Try.func13, Try.ntmps13
  go_wp2
  go_region_held3 (fun W => W.cell? ⟨w.heap.size, 0, none⟩ = some (.int .i32 d) ∧ W.cell? ⟨w.heap.size, 1, none⟩ = some (.int .u8 s) ∧ W.cell? ⟨w.heap.size + 1, 0, none⟩ = some (.int .i32 d') ∧ W.cell? ⟨w.heap.size + 1, 1, none⟩ = some (.int .u8 s')) (go_keep)
    (first | (go_at_call 16; refine (comp16 _ _ _).mono ?_; rintro e w' ⟨rfl, rfl⟩) | (go_at_call 17; refine (comp17 _ _ _).mono ?_; rintro e w' ⟨rfl, rfl⟩) | (go_at_call 15; refine (or_any _ (sg d d') (sg s s') _ ?_ ?_).mono ?_; (simp [World.cell?_alloc_at]); (simp [World.cell?_alloc_at]); rintro e w' ⟨rfl, rfl⟩))
  all_goals
    go_wp2
    go_ret
    refine ⟨rfl, ?_⟩
    repeat (first | exact Below.refl _ _ | apply Below.drew | apply below_drewN | (refine Below.alloc ?_ (by simp <;> omega) _))

set_option maxHeartbeats 1000000 in
theorem cv11 (d s d' s' : Int) (w : World) :
    Calls Try.prog 11 #[.agg #[.int .i32 d, .int .u8 s], .agg #[.int .i32 d', .int .u8 s']] w fun e w' => e = .returned (.int .i64 (cv d s d' s')) ∧ Below w.heap.size w w' := by
  go_enter Try.func11, Try.ntmps11
  go_wp2_with fail
  refine (cv13 _ _ _ _ _).mono ?_
  rintro e w1 ⟨rfl, hb⟩
  go_wp2
  go_ret
  refine ⟨rfl, ?_⟩
  exact (((Below.refl _ w).alloc (Nat.le_refl _) _).alloc (by simp) _).trans (hb.mono (by simp; omega))

theorem ver10 (d s : Int) (w : World) :
    Calls Try.prog 10 #[.int .i32 d, .int .u8 s] w fun e w' => e = .returned (.agg #[.int .i32 d, .int .u8 s]) ∧ w.alloc (.cells #[.int .i32 d, .int .u8 s] 28) = w' := by
  go_enter Try.func10, Try.ntmps10
  go_wp2
  exact bodyPost_ret (v := .agg #[.int .i32 d, .int .u8 s]) (by simp [results, Try.results10, go_sem]) rfl ⟨rfl, rfl⟩

theorem bcell {W w1 : World} (hb : Below W.heap.size W w1) : (∀ b o, b < W.heap.size → w1.cell? ⟨b, o, none⟩ = W.cell? ⟨b, o, none⟩) ∧ (∀ b o, b < W.heap.size → w1.frozen? ⟨b, o, none⟩ = W.frozen? ⟨b, o, none⟩) :=
  ⟨fun b o h => hb.cell (p := ⟨b, o, none⟩) h, fun b o h => hb.frozen (p := ⟨b, o, none⟩) h⟩

end Go.Proofs.Qxb6604413a
