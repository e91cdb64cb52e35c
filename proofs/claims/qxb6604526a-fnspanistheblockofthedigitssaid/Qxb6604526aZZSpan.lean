/-
  Seat b6604526a: ZZSpan.
-/
import Derived.Test.Qxb6604526aSpan
import Derived.Laws.Rows
namespace Go.Proofs.Qxb6604526a
open Go.RowKit

/-- An array of 32 bytes, as a value's cells. -/
def arr (P : Nat → Int) : Array Value := ((List.range 32).map fun j => Value.int .u8 (P j)).toArray
/-- The key's cells: its 32 bytes, its number of digits. -/
def arr2 (P : Nat → Int) (d : Int) : Array Value := ((List.range 32).map fun j => Value.int .u8 (P j)).toArray.push (.int .i64 d)

theorem arr_get (P : Nat → Int) (j : Nat) (hj : j < 32) : (arr P)[j]? = some (.int .u8 (P j)) := by
  unfold arr
  simp [hj]
theorem arr_size (P : Nat → Int) : (arr P).size = 32 := by simp [arr]
theorem arr2_get (P : Nat → Int) (d : Int) (j : Nat) (hj : j < 32) : (arr2 P d)[j]? = some (.int .u8 (P j)) := by
  unfold arr2
  rw [Array.getElem?_push]
  simp [hj]
  omega
theorem arr2_last (P : Nat → Int) (d : Int) : (arr2 P d)[32]? = some (.int .i64 d) := by
  unfold arr2
  rw [Array.getElem?_push]
  simp
theorem info22 (P : Nat → Int) : (Try.prog.info? 22).map (·.size) = some (arr P).size := by kernel_rfl

theorem run_build65 (P : Nat → Int) (d : Int) (w : World) : (Instr.build 65 #[(0, .agg (arr P)), (1, .int .i64 d)]).run Try.prog w = .ok (.agg (arr2 P d)) w := by kernel_rfl

/-- A 'build' whose run is known, at a plain region's list. -/
theorem wpList_build_run {P : Program} {ops : Array Oper} {rest : List Oper} {o : Oper} {a : Act} {w : World} {Q : Exit → Act → World → Prop} (hgd : o.guard = none) (ty : TypeId) (ps : Array (Nat × Operand)) (ho : o.op = .build ty ps)
    (qs : Array (Nat × Value)) (hq : (ps.map fun p => (p.1, a.eval p.2)) = qs) (v : Value) (hrun : (Instr.build ty qs).run P w = .ok v w)
    (h : wpList P ops Q rest (a.put o.dst v) w) : wpList P ops Q (o :: rest) a w := by
  refine wpList_plain hgd fun K hK => ?_
  unfold Oper.wp execOp
  simp only [ho, Sem.run_bind]
  rw [hq, hrun]
  exact hK _ _ h

theorem prefix_new (w : World) (P : Nat → Int) (d : Int) (hP : ∀ j, j < 32 → 0 ≤ P j ∧ P j ≤ 255) : Row (w.alloc (.cells (arr2 P d) 65)) (some ⟨w.heap.size, 0, none⟩) 32 P ∧ (w.alloc (.cells (arr2 P d) 65)).cell? ⟨w.heap.size, 32, none⟩ = some (.int .i64 d) := by
  have hg := heap_alloc_new w (.cells (arr2 P d) 65)
  refine ⟨fun j hj => ⟨w.heap.size, 0, rfl, ?_, hP j hj⟩, ?_⟩
  · rw [Nat.zero_add, cell_of_row _ _ _ _ _ _ hg, arr2_get P d j hj]
  · rw [cell_of_row _ _ _ _ _ _ hg, arr2_last]

set_option maxHeartbeats 1000000 in
theorem span16 (n c d : Nat) (a : Option Addr) (len : Nat → Nat) (X : Nat → Nat → Int) (P : Nat → Int) (w : World) (hI : IDs w a n len X) (hP : ∀ j, j < 32 → 0 ≤ P j ∧ P j ≤ 255)
    (hd : d ≤ 64) (hn : n ≤ 65536) (hlong : ∀ i, i < n → (d + 1) / 2 ≤ len i) (hmono : ∀ i j, i ≤ j → j < n → atb (X i) (len i) P ((d + 1) / 2) = true → atb (X j) (len j) P ((d + 1) / 2) = true) :
    Calls Try.prog 16 #[.agg (arr P), .int .i64 d, .slice a n c] w fun e w' =>
      (∃ f x : Nat, e = .returned (.tuple #[.int .i64 f, .int .i64 x]) ∧ SpanIs n len X P d f x) ∧ Below w.heap.size w w' := by
  have hg : ((w.alloc (.cells (arr P) 22)).alloc (.cells #[.slice a n c] 29)).heap[w.heap.size]? = some (.cells (arr P) 22 (0, 0)) := heap_alloc2_old w _ _
  have hbu := run_build65 P d
  have hi := info22 P
  have hz : ((w.alloc (.cells (arr P) 22)).alloc (.cells #[.slice a n c] 29)).heap.size = w.heap.size + 1 + 1 := by simp
  have F := prefix_new ((w.alloc (.cells (arr P) 22)).alloc (.cells #[.slice a n c] 29)) P d hP
  rw [hz] at F
  have hb0 : Below w.heap.size w (((w.alloc (.cells (arr P) 22)).alloc (.cells #[.slice a n c] 29)).alloc (.cells (arr2 P d) 65)) :=
    (((Below.refl _ w).alloc (Nat.le_refl _) _).alloc (by simp) _).alloc (by simp; omega) _
  have hh : (((w.alloc (.cells (arr P) 22)).alloc (.cells #[.slice a n c] 29)).alloc (.cells (arr2 P d) 65)).cell? ⟨w.heap.size + 1, 0, none⟩ = some (.slice a n c) := by go_simp
  have C := span32 (w.heap.size + 1 + 1) (w.heap.size + 1) n c d a len X P _ (hI.of_cells (cells_below hb0)) F.1 F.2 hh hd hn hlong hmono
  have CH : Hid (Calls Try.prog 32 #[.pointer (some ⟨w.heap.size + 1 + 1, 0, none⟩), .int .i64 n, .func (.func 33) #[] #[.pointer (some ⟨w.heap.size + 1, 0, none⟩)]] (((w.alloc (.cells (arr P) 22)).alloc (.cells #[.slice a n c] 29)).alloc (.cells (arr2 P d) 65)) fun e w' =>
      (∃ f x : Nat, e = .returned (.tuple #[.int .i64 f, .int .i64 x]) ∧ SpanIs n len X P d f x) ∧ Below (((w.alloc (.cells (arr P) 22)).alloc (.cells #[.slice a n c] 29)).alloc (.cells (arr2 P d) 65)).heap.size (((w.alloc (.cells (arr P) 22)).alloc (.cells #[.slice a n c] 29)).alloc (.cells (arr2 P d) 65)) w') := C
  have HB : Hid (Below w.heap.size w (((w.alloc (.cells (arr P) 22)).alloc (.cells #[.slice a n c] 29)).alloc (.cells (arr2 P d) 65))) := hb0
  clear hP hI hlong hmono F C hz hh hb0
  generalize arr P = A at hg hbu hi CH HB ⊢
  generalize arr2 P d = B at hbu CH HB
  have hbuH : Hid (∀ w, (Instr.build 65 #[(0, .agg A), (1, .int .i64 d)]).run Try.prog w = .ok (.agg B) w) := hbu
  clear hbu
  go_enter Try.func16, Try.ntmps16
  go_wp2_with (first | refine wpList_load_row rfl 22 _ rfl w.heap.size rfl 22 A (0, 0) _ hg Try.underlying22 rfl hi ?_ | refine wpList_build_run (by rfl) 65 #[(0, .tmp 9), (1, .tmp 10)] (by rfl) #[(0, .agg A), (1, .int .i64 d)] (by simp [Act.eval]) (.agg B) (hbuH.out _) ?_)
  refine CH.out.mono ?_
  rintro e w1 ⟨⟨f, x, rfl, hS⟩, hb1⟩
  have SH : Hid (SpanIs n len X P d f x) := hS
  have HB1 := HB.out.trans (hb1.mono HB.out.size)
  clear hS hb1 CH HB
  go_wp2
  go_ret2
  exact ⟨⟨f, x, rfl, SH.out⟩, HB1⟩

end Go.Proofs.Qxb6604526a
