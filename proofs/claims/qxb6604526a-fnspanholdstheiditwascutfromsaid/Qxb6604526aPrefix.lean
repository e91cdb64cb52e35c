/-
  Seat b6604526a: zzPrefixOf.
-/
import Derived.Test.Qxb6604526aCounts
import Derived.Laws.Tables
import Derived.Laws.CopyOwn
namespace Go.Proofs.Qxb6604526a
open Go.RowKit

/-- The key of d digits cut from a row. -/
def pre (f : Nat → Int) (d j : Nat) : Int := if j < (d + 1) / 2 then (if d % 2 = 1 ∧ j = d / 2 then f j / 16 * 16 else f j) else 0

theorem pre_bd {f : Nat → Int} {d : Nat} (h : ∀ j, j < (d + 1) / 2 → 0 ≤ f j ∧ f j ≤ 255) (j : Nat) : 0 ≤ pre f d j ∧ pre f d j ≤ 255 := by
  unfold pre
  by_cases hj : j < (d + 1) / 2
  · have := h j hj
    rw [if_pos hj]
    split <;> omega
  · rw [if_neg hj]; omega

theorem pre_odd (f : Nat → Int) (d : Nat) (hd : d % 2 = 1) : pre f d (d / 2) % 16 = 0 := by
  unfold pre
  rw [if_pos (by omega), if_pos ⟨hd, rfl⟩]
  omega

theorem pre_nib (f : Nat → Int) (d j : Nat) (hj : j < d) : nib (pre f d) j = nib f j := by
  unfold nib pre
  rw [if_pos (show j / 2 < (d + 1) / 2 by omega)]
  by_cases e : d % 2 = 1 ∧ j / 2 = d / 2
  · rw [if_pos e, if_pos (by omega), if_pos (by omega)]
    omega
  · rw [if_neg e]

theorem hd_pre (X : Nat → Nat → Int) (k d t : Nat) : hd X (pre (X k) d) d t = cmpN (nib (X t)) (nib (X k)) d :=
  cmpN_congr (fun _ _ => rfl) (fun j hj => pre_nib (X k) d j hj)

theorem arr_of_row {w : World} {g : Nat} {P : Nat → Int} {F : Nat → Value} (h : w.rowIs g 22 32 F) (hF : ∀ j, j < 32 → F j = .int .u8 (P j)) : w.heap[g]? = some (.cells (arr P) 22 (0, 0)) := by
  obtain ⟨c, hb, hn, hc⟩ := h
  have : c = arr P := by
    apply Array.ext_getElem?
    intro i
    by_cases hi : i < 32
    · rw [hc i hi, arr_get P i hi, hF i hi]
    · rw [Array.getElem?_eq_none (by omega), Array.getElem?_eq_none (by rw [arr_size]; omega)]
  rw [hb, this]

theorem zrow (w : World) : (w.alloc (.cells (arr fun _ => 0) 22)).rowIs w.heap.size 22 32 (fun _ => .int .u8 0) :=
  World.rowIs_alloc w (arr fun _ => 0) 22 (fun _ => .int .u8 0) (fun i hi => arr_get (fun _ => 0) i (by rw [arr_size] at hi; exact hi))

/-- After i rounds: the result's cells are still zero, the key's first i are cut. -/
def Cut (w wr : World) (f : Nat → Int) (i : Nat) : Prop :=
  wr.rowIs w.heap.size 22 32 (fun _ => .int .u8 0) ∧ wr.rowIs (w.heap.size + 1) 22 32 (fun j => .int .u8 (if j < i then f j else 0)) ∧ Below w.heap.size w wr

theorem Cut.start (w : World) (f : Nat → Int) : Cut w ((w.alloc (.cells (arr fun _ => 0) 22)).alloc (.cells (arr fun _ => 0) 22)) f 0 := by
  have h1 := zrow w
  have h2 := zrow (w.alloc (.cells (arr fun _ => 0) 22))
  rw [show (w.alloc (.cells (arr fun _ => 0) 22)).heap.size = w.heap.size + 1 by simp] at h2
  exact ⟨h1.alloc _, h2.congr (fun i _ => by simp), ((Below.refl _ w).alloc (Nat.le_refl _) _).alloc (by simp) _⟩

theorem Cut.step {w wr : World} {f : Nat → Int} {i : Nat} (h : Cut w wr f i) {y : Int} (hy : f i = y) : Cut w (wr.setCell ⟨w.heap.size + 1, i, none⟩ (.int .u8 y)) f (i + 1) := by
  obtain ⟨h1, h2, h3⟩ := h
  refine ⟨h1.setOther (by show w.heap.size ≠ w.heap.size + 1; omega) _, (h2.set i _).congr (fun j hj => ?_), h3.setCell (by show w.heap.size ≤ w.heap.size + 1; omega) _⟩
  by_cases e : j = i
  · subst e; rw [if_pos rfl, if_pos (by omega), hy]
  · rw [if_neg e]
    by_cases e2 : j < i
    · rw [if_pos e2, if_pos (by omega)]
    · rw [if_neg e2, if_neg (by omega)]

theorem mask_all : ∀ n : Fin 256, bits BinOp.and IntKind.u8 (n.val : Int) 240 = (n.val : Int) / 16 * 16 := by decide +kernel

theorem mask240 {y : Int} (h1 : 0 ≤ y) (h2 : y ≤ 255) : bits BinOp.and IntKind.u8 y 240 = y / 16 * 16 := by
  obtain ⟨k, rfl⟩ := Int.eq_ofNat_of_zero_le h1
  exact mask_all ⟨k, by omega⟩

theorem arr_one (P : Nat → Int) : (arr P).all (·.oneCell') = true := by
  rw [Array.all_eq_true_iff_forall_mem]
  intro v hv
  unfold arr at hv
  simp at hv
  obtain ⟨j, _, rfl⟩ := hv
  rfl

theorem Cut.even {w wr : World} {f : Nat → Int} {d : Nat} (h : Cut w wr f ((d + 1) / 2)) (hd : d % 2 = 0) :
    wr.heap[w.heap.size + 1]? = some (.cells (arr (pre f d)) 22 (0, 0)) ∧ wr.heap[w.heap.size]? = some (.cells (arr fun _ => 0) 22 (0, 0)) ∧ Below w.heap.size w wr := by
  obtain ⟨h1, h2, h3⟩ := h
  refine ⟨arr_of_row h2 (fun j hj => ?_), arr_of_row h1 (fun _ _ => rfl), h3⟩
  unfold pre
  by_cases e : j < (d + 1) / 2
  · rw [if_pos e, if_pos e, if_neg (by omega)]
  · rw [if_neg e, if_neg e]

theorem Cut.odd {w wr : World} {f : Nat → Int} {d : Nat} (h : Cut w wr f ((d + 1) / 2)) (hd : d % 2 = 1) {y : Int} (hy : f (d / 2) = y) (y1 : 0 ≤ y) (y2 : y ≤ 255) :
    (wr.setCell ⟨w.heap.size + 1, d / 2, none⟩ (.int .u8 (bits BinOp.and IntKind.u8 y 240))).heap[w.heap.size + 1]? = some (.cells (arr (pre f d)) 22 (0, 0)) ∧
    (wr.setCell ⟨w.heap.size + 1, d / 2, none⟩ (.int .u8 (bits BinOp.and IntKind.u8 y 240))).heap[w.heap.size]? = some (.cells (arr fun _ => 0) 22 (0, 0)) ∧
    Below w.heap.size w (wr.setCell ⟨w.heap.size + 1, d / 2, none⟩ (.int .u8 (bits BinOp.and IntKind.u8 y 240))) := by
  obtain ⟨h1, h2, h3⟩ := h
  refine ⟨arr_of_row (h2.set (d / 2) _) (fun j hj => ?_), arr_of_row (h1.setOther (by show w.heap.size ≠ w.heap.size + 1; omega) _) (fun _ _ => rfl), h3.setCell (by show w.heap.size ≤ w.heap.size + 1; omega) _⟩
  unfold pre
  rw [mask240 y1 y2]
  by_cases e0 : j = d / 2
  · rw [if_pos e0, if_pos (by omega), if_pos ⟨hd, e0⟩, e0, hy]
  · rw [if_neg e0]
    by_cases e : j < (d + 1) / 2
    · rw [if_pos e, if_pos e, if_neg (fun h => e0 h.2)]
    · rw [if_neg e, if_neg e]

set_option maxHeartbeats 2000000 in
theorem prefix_any (a : Option Addr) (n c d : Nat) (f : Nat → Int) (w : World) (hr : Row w a n f) (hdn : (d + 1) / 2 ≤ n) (hd : d ≤ 64) :
    Calls Try.prog 19 #[.slice a n c, .int .i64 d] w fun e w' => e = .returned (.agg (arr (pre f d))) ∧ Below w.heap.size w w' := by
  have HR : Hid (Row w a n f) := hr
  have ST : Hid (Cut w ((w.alloc (.cells (arr fun _ => 0) 22)).alloc (.cells (arr fun _ => 0) 22)) f 0) := Cut.start w f
  clear hr
  go_enter Try.func19, Try.ntmps19
  go_wp2
  go_loopw [7] (fun s wr => ∃ i : Nat, s = .int .i64 i ∧ i ≤ (d + 1) / 2 ∧ Cut w wr f i) (fun s _ => (d + 1) / 2 - (intOf s).toNat)
  case atStart => exact ⟨0, rfl, Nat.zero_le _, ST.out⟩
  case round =>
    obtain ⟨i, rfl, hi, hC⟩ := hrel
    by_cases hlt : i < (d + 1) / 2
    · obtain ⟨b, o, rfl, x0, d1, d2⟩ := HR.out i (by omega)
      have hb : b < w.heap.size := World.block_lt_of_cell? w _ x0
      have x1 : wr.cell? ⟨b, o + i, none⟩ = some (.int .u8 (f i)) := (hC.2.2.cell (p := ⟨b, o + i, none⟩) hb).trans x0
      have co := hC.2.1.cell (i := i) (by omega)
      have fo := hC.2.1.frozen i
      have K : Hid (∀ y, f i = y → Cut w (wr.setCell ⟨w.heap.size + 1, i, none⟩ (.int .u8 y)) f (i + 1)) := fun y hy => hC.step hy
      clear x0 ST hC
      generalize hy : f i = y at x1 d1 d2
      have Y : Hid (f i = y) := hy
      clear hy
      have i1 : (i : Int) < ((d : Int) + 1) / 2 := by omega
      have i2 : (i : Int) < 32 := by omega
      go_wp2
      go_roundw
      case rel => exact ⟨i + 1, by go_num, by omega, K.out y Y.out⟩
      case measure => simp [intOf]; omega
    · obtain rfl : (d + 1) / 2 = i := by omega
      clear ST
      by_cases hodd : d % 2 = 1
      · have hz : (d : Int) % 2 = 1 := by omega
        have hz2 : ((d : Int) % 2 == 1) = true := by simp [hz]
        have co := hC.2.1.cell (i := d / 2) (by omega)
        rw [if_pos (by omega)] at co
        have fo := hC.2.1.frozen (d / 2)
        obtain ⟨_, _, _, _, d1, d2⟩ := HR.out (d / 2) (by omega)
        have i1 : (d : Int) / 2 < 32 := by omega
        generalize hy : f (d / 2) = y at co d1 d2
        have Y : Hid (f (d / 2) = y) := hy
        clear hy
        have ⟨g5, g4, gb⟩ := hC.odd hodd Y.out d1 d2
        clear hC
        have h22 := info22 (pre f d)
        have hone := arr_one (pre f d)
        have hsz : (arr fun _ => 0).size = (arr (pre f d)).size := by rw [arr_size, arr_size]
        have GB : Hid (Below w.heap.size w (wr.setCell ⟨w.heap.size + 1, d / 2, none⟩ (.int .u8 (bits BinOp.and IntKind.u8 y 240)))) := gb
        clear gb
        generalize hA : arr (pre f d) = A at g5 h22 hone hsz
        have HA : Hid (arr (pre f d) = A) := hA
        clear hA
        generalize (arr fun _ => 0) = Z at g4 hsz
        go_wp2_with (first | refine wpList_load_row rfl 22 (.tmp 5) rfl (w.heap.size + 1) rfl 22 A (0, 0) _ g5 Try.underlying22 rfl h22 ?_ | refine wpList_store_row rfl 22 (.tmp 4) (.tmp 33) rfl w.heap.size A rfl rfl 22 Z g4 h22 hsz hone ?_)
        exact bodyPost_ret (v := .agg A) (results_cell_row Try.results19 _ _ w.heap.size 22 A (0, 0) _ rfl (setRow_heap _ _ _ _ _ _ g4) Try.underlying22 rfl h22) rfl ⟨by rw [HA.out], below_setRow GB.out (Nat.le_refl _) _⟩
      · have hz : (d : Int) % 2 = 0 := by omega
        have hz2 : ((d : Int) % 2 == 1) = false := by simp [hz]
        have ⟨g5, g4, gb⟩ := hC.even (by omega)
        clear hC
        have h22 := info22 (pre f d)
        have hone := arr_one (pre f d)
        have hsz : (arr fun _ => 0).size = (arr (pre f d)).size := by rw [arr_size, arr_size]
        have GB : Hid (Below w.heap.size w wr) := gb
        clear gb
        generalize hA : arr (pre f d) = A at g5 h22 hone hsz
        have HA : Hid (arr (pre f d) = A) := hA
        clear hA
        generalize (arr fun _ => 0) = Z at g4 hsz
        go_wp2_with (first | refine wpList_load_row rfl 22 (.tmp 5) rfl (w.heap.size + 1) rfl 22 A (0, 0) _ g5 Try.underlying22 rfl h22 ?_ | refine wpList_store_row rfl 22 (.tmp 4) (.tmp 33) rfl w.heap.size A rfl rfl 22 Z g4 h22 hsz hone ?_)
        exact bodyPost_ret (v := .agg A) (results_cell_row Try.results19 _ _ w.heap.size 22 A (0, 0) _ rfl (setRow_heap _ _ _ _ _ _ g4) Try.underlying22 rfl h22) rfl ⟨by rw [HA.out], below_setRow GB.out (Nat.le_refl _) _⟩

end Go.Proofs.Qxb6604526a
