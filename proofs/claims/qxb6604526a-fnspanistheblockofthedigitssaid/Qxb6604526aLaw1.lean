/-
  Seat b6604526a: the walk of FnSpanIsTheBlockOfTheDigits.
-/
import Derived.Test.Qxb6604526aCounts
namespace Go.Proofs.Qxb6604526a
open Go.RowKit

theorem box_row (w : World) (P : Nat → Int) (hP : ∀ j, j < 32 → 0 ≤ P j ∧ P j ≤ 255) : Row (w.alloc (.cells (arr P) 22)) (some ⟨w.heap.size, 0, none⟩) 32 P := by
  have hg := heap_alloc_new w (.cells (arr P) 22)
  intro j hj
  exact ⟨w.heap.size, 0, rfl, by rw [Nat.zero_add, cell_of_row _ _ _ _ _ _ hg, arr_get P j hj], hP j hj⟩

/-- What the law holds on to behind the copy. -/
theorem span_frame {w W w3 : World} {A : Array Value} {n q : Nat} {a' : Option Addr} {len : Nat → Nat} {X : Nat → Nat → Int} {P : Nat → Int} (hR : Row W (some ⟨w.heap.size, 0, none⟩) 32 P) (hg : W.heap[w.heap.size]? = some (.cells A 22 (0, 0))) (hB : Below w.heap.size w W)
    (hI3 : IDs w3 a' n len X) (hb3 : Below (W.drewN q).heap.size (W.drewN q) w3) : IDs w3 a' n len X ∧ Row w3 (some ⟨w.heap.size, 0, none⟩) 32 P ∧ w3.heap[w.heap.size]? = some (.cells A 22 (0, 0)) ∧ Below w.heap.size w w3 := by
  have hlt : w.heap.size < W.heap.size := by
    obtain ⟨h, _⟩ := Array.getElem?_eq_some_iff.1 hg
    exact h
  refine ⟨hI3, (hR.drewN q).of_cells (cells_below hb3), (hb3.block _ hlt).trans hg, (below_drewN hB q).trans (hb3.mono hB.size)⟩

set_option maxRecDepth 100000 in
set_option maxHeartbeats 4000000 in
theorem law1_walk (n c : Nat) (d : Int) (a : Option Addr) (len : Nat → Nat) (X : Nat → Nat → Int) (P : Nat → Int) (w : World) (hI : IDs w a n len X) (hP : ∀ j, j < 32 → 0 ≤ P j ∧ P j ≤ 255) (hn : n ≤ 9223372036854775807)
    (hd1 : -9223372036854775808 ≤ d) (hd2 : d ≤ 9223372036854775807) :
    Calls Try.prog 4 #[.agg (arr P), .int .i64 d, .slice a n c] w fun e w' => e = .returned (.bool true) ∧ Below w.heap.size w w' := by
  have hi := info22 P
  have hb1 : Below w.heap.size w (w.alloc (.cells (arr P) 22)) := (Below.refl _ w).alloc (Nat.le_refl _) _
  have hR1 := box_row w P hP
  have hI1 : IDs (w.alloc (.cells (arr P) 22)) a n len X := hI.of_cells (cells_below hb1)
  have hg1 : (w.alloc (.cells (arr P) 22)).heap[w.heap.size]? = some (.cells (arr P) 22 (0, 0)) := heap_alloc_new w _
  have hb2 : Below (w.alloc (.cells (arr P) 22)).heap.size (w.alloc (.cells (arr P) 22)) ((w.alloc (.cells (arr P) 22)).alloc (.cells (arr P) 22)) := (Below.refl _ _).alloc (Nat.le_refl _) _
  have C11 := bytes11 (arr P) a n c d len X (w.alloc (.cells (arr P) 22)) hI1 hn
  have hI2 : IDs ((w.alloc (.cells (arr P) 22)).alloc (.cells (arr P) 22)) a n len X := hI1.of_cells (cells_below hb2)
  have hR2 : Row ((w.alloc (.cells (arr P) 22)).alloc (.cells (arr P) 22)) (some ⟨w.heap.size, 0, none⟩) 32 P := hR1.of_cells (cells_below hb2)
  have hg2 : ((w.alloc (.cells (arr P) 22)).alloc (.cells (arr P) 22)).heap[w.heap.size]? = some (.cells (arr P) 22 (0, 0)) := heap_alloc2_old w _ _
  have hb3 : Below w.heap.size w ((w.alloc (.cells (arr P) 22)).alloc (.cells (arr P) 22)) := hb1.alloc (by simp) _
  have F : Hid (IDs ((w.alloc (.cells (arr P) 22)).alloc (.cells (arr P) 22)) a n len X ∧ Row ((w.alloc (.cells (arr P) 22)).alloc (.cells (arr P) 22)) (some ⟨w.heap.size, 0, none⟩) 32 P ∧ ((w.alloc (.cells (arr P) 22)).alloc (.cells (arr P) 22)).heap[w.heap.size]? = some (.cells (arr P) 22 (0, 0)) ∧ Below w.heap.size w ((w.alloc (.cells (arr P) 22)).alloc (.cells (arr P) 22))) := ⟨hI2, hR2, hg2, hb3⟩
  have HC11 : Hid (Calls Try.prog 11 #[.agg (arr P), .int .i64 d, .slice a n c] (w.alloc (.cells (arr P) 22)) fun e w' => SaysIf e true True ∧ (w.alloc (.cells (arr P) 22)).alloc (.cells (arr P) 22) = w') := C11
  have S16 : Hid (∀ (n c d : Nat) (a : Option Addr) (w : World) (_ : IDs w a n len X) (_ : d ≤ 64) (_ : n ≤ 65536) (_ : ∀ i, i < n → (d + 1) / 2 ≤ len i) (_ : ∀ i j, i ≤ j → j < n → atb (X i) (len i) P ((d + 1) / 2) = true → atb (X j) (len j) P ((d + 1) / 2) = true),
    Calls Try.prog 16 #[.agg (arr P), .int .i64 d, .slice a n c] w fun e w' =>
      (∃ f x : Nat, e = .returned (.tuple #[.int .i64 f, .int .i64 x]) ∧ SpanIs n len X P d f x) ∧ Below w.heap.size w w') := fun n c d a w hI hd hn hlong hmono => span16 n c d a len X P w hI hP hd hn hlong hmono
  clear C11 hI2 hR2 hg2 hb3 hb1 hb2 hR1 hI1 hI hP
  generalize arr P = A at hi hg1 F HC11 S16 ⊢
  go_enter Try.func4, Try.ntmps4
  go_wp2_with (refine wpList_load_row rfl 22 _ rfl w.heap.size rfl 22 A (0, 0) _ hg1 Try.underlying22 rfl hi ?_)
  refine HC11.out.mono ?_
  rintro e w1 ⟨⟨r, rfl, _⟩, rfl⟩
  clear HC11 hg1
  generalize (w.alloc (.cells A 22)).alloc (.cells A 22) = W at F ⊢
  cases r with
  | false =>
    go_wp2
    go_ret
    exact ⟨rfl, F.out.2.2.2⟩
  | true =>
    go_wp2_with fail
    refine (big_any a n c len X W F.out.1 hn).mono ?_
    rintro e w1 ⟨⟨r, rfl, hr⟩, rfl⟩
    cases r with
    | true =>
      go_wp2
      go_ret
      exact ⟨rfl, F.out.2.2.2⟩
    | false =>
      obtain ⟨hn2, hlen⟩ := hr rfl
      have HL : Hid (∀ i, i < n → len i ≤ 1048576) := hlen
      clear hr hlen hn
      by_cases hlo : d < 0
      · go_wp2
        go_ret
        exact ⟨rfl, F.out.2.2.2⟩
      · by_cases hhi : 64 < d
        · go_wp2
          go_ret
          exact ⟨rfl, F.out.2.2.2⟩
        · obtain ⟨dn, rfl⟩ := Int.eq_ofNat_of_zero_le (show 0 ≤ d by omega)
          have hdn : dn ≤ 64 := by omega
          by_cases hodd : dn % 2 = 1
          · have ⟨cP, p1, p2⟩ := F.out.2.1.lit (j := dn / 2) (by omega)
            rw [Nat.zero_add] at cP
            have hz : (dn : Int) % 2 = 1 := by omega
            have hz2 : ((dn : Int) % 2 == 1) = true := by simp [hz]
            by_cases hlow : P (dn / 2) % 16 = 0
            · have HP : Hid (dn % 2 = 1 → P (dn / 2) % 16 = 0) := fun _ => hlow
              generalize P (dn / 2) = y at cP p1 p2 hlow
              have C13 := long_any a n c ((dn + 1) / 2) len X W F.out.1 (by omega)
              rw [show (((dn + 1) / 2 : Nat) : Int) = ((dn : Int) + 1) / 2 by omega] at C13
              go_wp2_with fail
              refine C13.mono ?_
              clear C13
              rintro e w1 ⟨⟨r, rfl, hr13⟩, rfl⟩
              cases r with
              | false =>
                go_wp2
                go_ret
                exact ⟨rfl, F.out.2.2.2⟩
              | true =>
                have LO : Hid (∀ i, i < n → (dn + 1) / 2 ≤ len i) := hr13 rfl
                clear hr13
                go_wp2_with fail
                refine (sorted_any a n c len X W F.out.1 (by omega)).mono ?_
                rintro e w1 ⟨⟨r, rfl, hr14⟩, q, rfl⟩
                cases r with
                | false =>
                  go_wp2
                  go_ret
                  exact ⟨rfl, below_drewN F.out.2.2.2 _⟩
                | true =>
                  have SO : Hid (∀ i, i + 1 < n → cmpB (X i) (len i) (X (i + 1)) (len (i + 1)) ≤ 0) := hr14 rfl
                  clear hr14
                  go_wp2_with fail
                  refine (clone_any a n c len X (W.drewN q) F.out.1 hn2 HL.out).mono ?_
                  rintro e w3 ⟨⟨a', c', rfl, hc', hI3⟩, hb3⟩
                  have F3 : Hid (IDs w3 a' n len X ∧ Row w3 (some ⟨w.heap.size, 0, none⟩) 32 P ∧ w3.heap[w.heap.size]? = some (.cells A 22 (0, 0)) ∧ Below w.heap.size w w3) := span_frame F.out.2.1 F.out.2.2.1 F.out.2.2.2 hI3 hb3
                  clear hI3 hb3
                  have hg3 := F3.out.2.2.1
                  go_wp2_with (refine wpList_load_row rfl 22 _ rfl w.heap.size rfl 22 A (0, 0) _ hg3 Try.underlying22 rfl hi ?_)
                  refine (S16.out n c' dn a' w3 F3.out.1 hdn hn2 LO.out (atb_mono SO.out LO.out HP.out)).mono ?_
                  rintro e w4 ⟨⟨f, x, rfl, hS⟩, hb4⟩
                  have F4 : Hid (IDs w4 a' n len X ∧ Row w4 (some ⟨w.heap.size, 0, none⟩) 32 P ∧ Below w.heap.size w w4) := ⟨F3.out.1.of_cells (cells_below hb4), F3.out.2.1.of_cells (cells_below hb4), F3.out.2.2.2.trans (hb4.mono F3.out.2.2.2.size)⟩
                  have D := span_digits SO.out LO.out HP.out hS
                  have CN := cnt_span (hd X P dn) n f x D.1 D.2.2.1 D.2.2.2.1 D.2.2.2.2 n (Nat.le_refl _)
                  have hx1 : f ≤ x := D.1
                  have hx2 : x ≤ n := D.2.1
                  have CH : Hid (cntLt (hd X P dn) n = f ∧ cntEq (hd X P dn) n = x - f) := ⟨by rw [CN.1]; omega, by rw [CN.2]; omega⟩
                  clear hS hb4 hg3 D CN
                  go_wp2
                  go_loopw [9, 10, 11] (fun s t u wr => ∃ i : Nat, u = .int .i64 i ∧ i ≤ n ∧ s = .int .i64 (cntLt (hd X P dn) i) ∧ t = .int .i64 (cntEq (hd X P dn) i) ∧ Hid (∃ q, wr = w4.drewN q)) (fun _ _ u _ => n - (intOf u).toNat)
                  case atStart => exact ⟨0, rfl, Nat.zero_le _, rfl, rfl, (show Hid _ from ⟨0, rfl⟩)⟩
                  case round =>
                    obtain ⟨i, rfl, hin, rfl, rfl, Q⟩ := hrel
                    have k1 := cntLt_le (hd X P dn) i
                    have k2 := cntEq_le (hd X P dn) i
                    by_cases hlt : i < n
                    · have FW : IDs wr a' n len X ∧ Row wr (some ⟨w.heap.size, 0, none⟩) 32 P := by
                        obtain ⟨q, rfl⟩ := Q.out
                        exact ⟨F4.out.1, F4.out.2.1⟩
                      obtain ⟨b, o, ai, ci, rfl, e0, l0, lc, r0⟩ := FW.1 i hlt
                      have i1 : (i : Int) < n := by omega
                      have C17 : ∀ m, Calls Try.prog 17 #[.slice ai (len i) ci, .slice (some ⟨w.heap.size, 0, none⟩) 32 32, .int .i64 dn] (wr.drewN m) fun e w' => e = .returned (.int .i64 (hd X P dn i)) ∧ w' = wr.drewN m :=
                        fun m => (digits_any ai (some ⟨w.heap.size, 0, none⟩) (len i) ci 32 32 dn (X i) P (wr.drewN m) (r0.drewN m) (FW.2.drewN m) (LO.out i hlt) (by omega) hdn l0 (by omega)).mono (fun _ _ h => ⟨h.1, h.2.symm⟩)
                      have J : Hid ((hd X P dn i < 0 → cntLt (hd X P dn) (i + 1) = cntLt (hd X P dn) i + 1 ∧ cntEq (hd X P dn) (i + 1) = cntEq (hd X P dn) i) ∧ (hd X P dn i = 0 → cntLt (hd X P dn) (i + 1) = cntLt (hd X P dn) i ∧ cntEq (hd X P dn) (i + 1) = cntEq (hd X P dn) i + 1) ∧ (0 < hd X P dn i → cntLt (hd X P dn) (i + 1) = cntLt (hd X P dn) i ∧ cntEq (hd X P dn) (i + 1) = cntEq (hd X P dn) i)) := ⟨cnt_lt, cnt_eq, cnt_gt⟩
                      clear FW r0
                      generalize hd X P dn i = v at C17 J
                      generalize len i = ni at e0 C17
                      rcases Int.lt_trichotomy v 0 with hv | hv | hv
                      · have J2 : Hid (cntLt (hd X P dn) (i + 1) = cntLt (hd X P dn) i + 1 ∧ cntEq (hd X P dn) (i + 1) = cntEq (hd X P dn) i) := J.out.1 hv
                        clear J
                        go_wp2
                        go_quiet ((go_at_call 17; exact Calls.quiet_of_same (C17 _)))
                        go_wp2
                        go_roundw
                        case rel => exact ⟨i + 1, by go_num, by omega, by rw [J2.out.1]; go_num, by rw [J2.out.2], (show Hid _ from dq1 Q.out _)⟩
                        case measure => simp [intOf]; omega
                      · have J2 : Hid (cntLt (hd X P dn) (i + 1) = cntLt (hd X P dn) i ∧ cntEq (hd X P dn) (i + 1) = cntEq (hd X P dn) i + 1) := J.out.2.1 hv
                        clear J
                        subst hv
                        go_wp2
                        go_quiet ((go_at_call 17; exact Calls.quiet_of_same (C17 _)))
                        go_wp2
                        go_roundw
                        case rel => exact ⟨i + 1, by go_num, by omega, by rw [J2.out.1], by rw [J2.out.2]; go_num, (show Hid _ from dq1 Q.out _)⟩
                        case measure => simp [intOf]; omega
                      · have J2 : Hid (cntLt (hd X P dn) (i + 1) = cntLt (hd X P dn) i ∧ cntEq (hd X P dn) (i + 1) = cntEq (hd X P dn) i) := J.out.2.2 hv
                        clear J
                        go_wp2
                        go_quiet ((go_at_call 17; exact Calls.quiet_of_same (C17 _)))
                        go_wp2
                        go_roundw
                        case rel => exact ⟨i + 1, by go_num, by omega, by rw [J2.out.1], by rw [J2.out.2], (show Hid _ from dq1 Q.out _)⟩
                        case measure => simp [intOf]; omega
                    · obtain rfl : n = i := by omega
                      have z1 := CH.out.1
                      have z2 := CH.out.2
                      have HB : Hid (Below w.heap.size w wr) := by
                        obtain ⟨q, rfl⟩ := Q.out
                        exact below_drewN F4.out.2.2 _
                      generalize cntLt (hd X P dn) n = u at *
                      generalize cntEq (hd X P dn) n = v at *
                      have g1 : ((f : Int) == (u : Int)) = true := by simp [z1]
                      have g2 : ((x : Int) == (u : Int) + (v : Int)) = true := by simp; omega
                      clear z1 z2 CH
                      go_wp2
                      go_ret
                      exact ⟨rfl, HB.out⟩
            · generalize P (dn / 2) = y at cP p1 p2 hlow
              go_wp2
              go_ret
              exact ⟨rfl, F.out.2.2.2⟩
          · have HP : Hid (dn % 2 = 1 → P (dn / 2) % 16 = 0) := fun h => absurd h hodd
            have hz : (dn : Int) % 2 = 0 := by omega
            have hz2 : ((dn : Int) % 2 == 1) = false := by simp [hz]
            have C13 := long_any a n c ((dn + 1) / 2) len X W F.out.1 (by omega)
            rw [show (((dn + 1) / 2 : Nat) : Int) = ((dn : Int) + 1) / 2 by omega] at C13
            go_wp2_with fail
            refine C13.mono ?_
            clear C13
            rintro e w1 ⟨⟨r, rfl, hr13⟩, rfl⟩
            cases r with
            | false =>
              go_wp2
              go_ret
              exact ⟨rfl, F.out.2.2.2⟩
            | true =>
              have LO : Hid (∀ i, i < n → (dn + 1) / 2 ≤ len i) := hr13 rfl
              clear hr13
              go_wp2_with fail
              refine (sorted_any a n c len X W F.out.1 (by omega)).mono ?_
              rintro e w1 ⟨⟨r, rfl, hr14⟩, q, rfl⟩
              cases r with
              | false =>
                go_wp2
                go_ret
                exact ⟨rfl, below_drewN F.out.2.2.2 _⟩
              | true =>
                have SO : Hid (∀ i, i + 1 < n → cmpB (X i) (len i) (X (i + 1)) (len (i + 1)) ≤ 0) := hr14 rfl
                clear hr14
                go_wp2_with fail
                refine (clone_any a n c len X (W.drewN q) F.out.1 hn2 HL.out).mono ?_
                rintro e w3 ⟨⟨a', c', rfl, hc', hI3⟩, hb3⟩
                have F3 : Hid (IDs w3 a' n len X ∧ Row w3 (some ⟨w.heap.size, 0, none⟩) 32 P ∧ w3.heap[w.heap.size]? = some (.cells A 22 (0, 0)) ∧ Below w.heap.size w w3) := span_frame F.out.2.1 F.out.2.2.1 F.out.2.2.2 hI3 hb3
                clear hI3 hb3
                have hg3 := F3.out.2.2.1
                go_wp2_with (refine wpList_load_row rfl 22 _ rfl w.heap.size rfl 22 A (0, 0) _ hg3 Try.underlying22 rfl hi ?_)
                refine (S16.out n c' dn a' w3 F3.out.1 hdn hn2 LO.out (atb_mono SO.out LO.out HP.out)).mono ?_
                rintro e w4 ⟨⟨f, x, rfl, hS⟩, hb4⟩
                have F4 : Hid (IDs w4 a' n len X ∧ Row w4 (some ⟨w.heap.size, 0, none⟩) 32 P ∧ Below w.heap.size w w4) := ⟨F3.out.1.of_cells (cells_below hb4), F3.out.2.1.of_cells (cells_below hb4), F3.out.2.2.2.trans (hb4.mono F3.out.2.2.2.size)⟩
                have D := span_digits SO.out LO.out HP.out hS
                have CN := cnt_span (hd X P dn) n f x D.1 D.2.2.1 D.2.2.2.1 D.2.2.2.2 n (Nat.le_refl _)
                have hx1 : f ≤ x := D.1
                have hx2 : x ≤ n := D.2.1
                have CH : Hid (cntLt (hd X P dn) n = f ∧ cntEq (hd X P dn) n = x - f) := ⟨by rw [CN.1]; omega, by rw [CN.2]; omega⟩
                clear hS hb4 hg3 D CN
                go_wp2
                go_loopw [9, 10, 11] (fun s t u wr => ∃ i : Nat, u = .int .i64 i ∧ i ≤ n ∧ s = .int .i64 (cntLt (hd X P dn) i) ∧ t = .int .i64 (cntEq (hd X P dn) i) ∧ Hid (∃ q, wr = w4.drewN q)) (fun _ _ u _ => n - (intOf u).toNat)
                case atStart => exact ⟨0, rfl, Nat.zero_le _, rfl, rfl, (show Hid _ from ⟨0, rfl⟩)⟩
                case round =>
                  obtain ⟨i, rfl, hin, rfl, rfl, Q⟩ := hrel
                  have k1 := cntLt_le (hd X P dn) i
                  have k2 := cntEq_le (hd X P dn) i
                  by_cases hlt : i < n
                  · have FW : IDs wr a' n len X ∧ Row wr (some ⟨w.heap.size, 0, none⟩) 32 P := by
                      obtain ⟨q, rfl⟩ := Q.out
                      exact ⟨F4.out.1, F4.out.2.1⟩
                    obtain ⟨b, o, ai, ci, rfl, e0, l0, lc, r0⟩ := FW.1 i hlt
                    have i1 : (i : Int) < n := by omega
                    have C17 : ∀ m, Calls Try.prog 17 #[.slice ai (len i) ci, .slice (some ⟨w.heap.size, 0, none⟩) 32 32, .int .i64 dn] (wr.drewN m) fun e w' => e = .returned (.int .i64 (hd X P dn i)) ∧ w' = wr.drewN m :=
                      fun m => (digits_any ai (some ⟨w.heap.size, 0, none⟩) (len i) ci 32 32 dn (X i) P (wr.drewN m) (r0.drewN m) (FW.2.drewN m) (LO.out i hlt) (by omega) hdn l0 (by omega)).mono (fun _ _ h => ⟨h.1, h.2.symm⟩)
                    have J : Hid ((hd X P dn i < 0 → cntLt (hd X P dn) (i + 1) = cntLt (hd X P dn) i + 1 ∧ cntEq (hd X P dn) (i + 1) = cntEq (hd X P dn) i) ∧ (hd X P dn i = 0 → cntLt (hd X P dn) (i + 1) = cntLt (hd X P dn) i ∧ cntEq (hd X P dn) (i + 1) = cntEq (hd X P dn) i + 1) ∧ (0 < hd X P dn i → cntLt (hd X P dn) (i + 1) = cntLt (hd X P dn) i ∧ cntEq (hd X P dn) (i + 1) = cntEq (hd X P dn) i)) := ⟨cnt_lt, cnt_eq, cnt_gt⟩
                    clear FW r0
                    generalize hd X P dn i = v at C17 J
                    generalize len i = ni at e0 C17
                    rcases Int.lt_trichotomy v 0 with hv | hv | hv
                    · have J2 : Hid (cntLt (hd X P dn) (i + 1) = cntLt (hd X P dn) i + 1 ∧ cntEq (hd X P dn) (i + 1) = cntEq (hd X P dn) i) := J.out.1 hv
                      clear J
                      go_wp2
                      go_quiet ((go_at_call 17; exact Calls.quiet_of_same (C17 _)))
                      go_wp2
                      go_roundw
                      case rel => exact ⟨i + 1, by go_num, by omega, by rw [J2.out.1]; go_num, by rw [J2.out.2], (show Hid _ from dq1 Q.out _)⟩
                      case measure => simp [intOf]; omega
                    · have J2 : Hid (cntLt (hd X P dn) (i + 1) = cntLt (hd X P dn) i ∧ cntEq (hd X P dn) (i + 1) = cntEq (hd X P dn) i + 1) := J.out.2.1 hv
                      clear J
                      subst hv
                      go_wp2
                      go_quiet ((go_at_call 17; exact Calls.quiet_of_same (C17 _)))
                      go_wp2
                      go_roundw
                      case rel => exact ⟨i + 1, by go_num, by omega, by rw [J2.out.1], by rw [J2.out.2]; go_num, (show Hid _ from dq1 Q.out _)⟩
                      case measure => simp [intOf]; omega
                    · have J2 : Hid (cntLt (hd X P dn) (i + 1) = cntLt (hd X P dn) i ∧ cntEq (hd X P dn) (i + 1) = cntEq (hd X P dn) i) := J.out.2.2 hv
                      clear J
                      go_wp2
                      go_quiet ((go_at_call 17; exact Calls.quiet_of_same (C17 _)))
                      go_wp2
                      go_roundw
                      case rel => exact ⟨i + 1, by go_num, by omega, by rw [J2.out.1], by rw [J2.out.2], (show Hid _ from dq1 Q.out _)⟩
                      case measure => simp [intOf]; omega
                  · obtain rfl : n = i := by omega
                    have z1 := CH.out.1
                    have z2 := CH.out.2
                    have HB : Hid (Below w.heap.size w wr) := by
                      obtain ⟨q, rfl⟩ := Q.out
                      exact below_drewN F4.out.2.2 _
                    generalize cntLt (hd X P dn) n = u at *
                    generalize cntEq (hd X P dn) n = v at *
                    have g1 : ((f : Int) == (u : Int)) = true := by simp [z1]
                    have g2 : ((x : Int) == (u : Int) + (v : Int)) = true := by simp; omega
                    clear z1 z2 CH
                    go_wp2
                    go_ret
                    exact ⟨rfl, HB.out⟩

end Go.Proofs.Qxb6604526a
