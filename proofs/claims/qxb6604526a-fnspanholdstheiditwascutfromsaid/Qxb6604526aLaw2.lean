/-
  Seat b6604526a: the walk of FnSpanHoldsTheIDItWasCutFrom.
-/
import Derived.Test.Qxb6604526aHolds
namespace Go.Proofs.Qxb6604526a
open Go.RowKit

theorem cells_drewN {w W : World} (h : ∀ b o v, w.cell? ⟨b, o, none⟩ = some v → W.cell? ⟨b, o, none⟩ = some v) (q : Nat) : ∀ b o v, w.cell? ⟨b, o, none⟩ = some v → (W.drewN q).cell? ⟨b, o, none⟩ = some v := h

/-- All that the law's calls of zzCmpDigits, zzLongEnough and zzPrefixOf need, in whatever world keeps the cells. -/
theorem dig17 {w : World} {b o n k d : Nat} {len : Nat → Nat} {X : Nat → Nat → Int} (hI : IDs w (some ⟨b, o, none⟩) n len X) (hk : k < n) (LO : ∀ i, i < n → (d + 1) / 2 ≤ len i) (hd : d ≤ 64) :
    ∃ ak ck, w.cell? ⟨b, o + k, none⟩ = some (.slice ak (len k) ck) ∧ len k ≤ 9223372036854775807 ∧ Row w ak (len k) (X k) ∧
      ∀ t, t < n → ∃ ax cx, w.cell? ⟨b, o + t, none⟩ = some (.slice ax (len t) cx) ∧ ∀ W, (∀ b o v, w.cell? ⟨b, o, none⟩ = some v → W.cell? ⟨b, o, none⟩ = some v) →
        Calls Try.prog 17 #[.slice ax (len t) cx, .slice ak (len k) ck, .int .i64 d] W fun e w' => e = .returned (.int .i64 (dg X k d t)) ∧ w' = W := by
  obtain ⟨ak, ck, ek, lk, _, rk⟩ := hI.lit hk
  refine ⟨ak, ck, ek, lk, rk, fun t ht => ?_⟩
  obtain ⟨ax, cx, ex, lx, _, rx⟩ := hI.lit ht
  exact ⟨ax, cx, ex, fun W hW => (digits_any ax ak (len t) cx (len k) ck d (X t) (X k) W (rx.of_cells hW) (rk.of_cells hW) (LO t ht) (LO k hk) hd lx lk).mono (fun _ _ h => ⟨h.1, h.2.symm⟩)⟩

set_option maxRecDepth 100000 in
set_option maxHeartbeats 8000000 in
theorem law2_walk (n c : Nat) (k d : Int) (a : Option Addr) (len : Nat → Nat) (X : Nat → Nat → Int) (w : World) (hI : IDs w a n len X) (hn : n ≤ 9223372036854775807)
    (hk1 : -9223372036854775808 ≤ k) (hk2 : k ≤ 9223372036854775807) (hd1 : -9223372036854775808 ≤ d) (hd2 : d ≤ 9223372036854775807) :
    Calls Try.prog 5 #[.slice a n c, .int .i64 k, .int .i64 d] w fun e w' => e = .returned (.bool true) ∧ Below w.heap.size w w' := by
  have F : Hid (IDs w a n len X) := hI
  clear hI
  go_enter Try.func5, Try.ntmps5
  go_wp2_with fail
  refine (bytes18 a n c k d len X w F.out hn).mono ?_
  rintro e w1 ⟨⟨r, rfl, _⟩, rfl⟩
  cases r with
  | false =>
    go_wp2
    go_ret
    exact ⟨rfl, Below.refl _ _⟩
  | true =>
    go_wp2_with fail
    refine (big_any a n c len X w F.out hn).mono ?_
    rintro e w1 ⟨⟨r, rfl, hr⟩, rfl⟩
    cases r with
    | true =>
      go_wp2
      go_ret
      exact ⟨rfl, Below.refl _ _⟩
    | false =>
      obtain ⟨hn2, hlen⟩ := hr rfl
      have HL : Hid (∀ i, i < n → len i ≤ 1048576) := hlen
      clear hr hlen hn
      by_cases hlo : k < 0
      · go_wp2
        go_ret
        exact ⟨rfl, Below.refl _ _⟩
      · by_cases hhi : (n : Int) ≤ k
        · go_wp2
          go_ret
          exact ⟨rfl, Below.refl _ _⟩
        · obtain ⟨kn, rfl⟩ := Int.eq_ofNat_of_zero_le (show 0 ≤ k by omega)
          have hkn : kn < n := by omega
          obtain ⟨b, o, ak, ck, rfl, ek, lk, lck, rk⟩ := F.out kn hkn
          have hlk := HL.out kn hkn
          clear rk
          generalize hnk : len kn = nk at ek lk lck hlk
          have NK : Hid (len kn = nk) := hnk
          clear hnk
          have k1 : (kn : Int) < n := by omega
          by_cases hdlo : d < 0
          · go_wp2
            go_ret
            exact ⟨rfl, Below.refl _ _⟩
          · by_cases hdhi : 64 < d
            · go_wp2
              go_ret
              exact ⟨rfl, Below.refl _ _⟩
            · by_cases hdl : 2 * (nk : Int) < d
              · go_wp2
                go_ret
                exact ⟨rfl, Below.refl _ _⟩
              · obtain ⟨dn, rfl⟩ := Int.eq_ofNat_of_zero_le (show 0 ≤ d by omega)
                have hdn : dn ≤ 64 := by omega
                have C13 := long_any (some ⟨b, o, none⟩) n c ((dn + 1) / 2) len X w F.out (by omega)
                rw [show (((dn + 1) / 2 : Nat) : Int) = ((dn : Int) + 1) / 2 by omega] at C13
                go_wp2_with fail
                refine C13.mono ?_
                clear C13
                rintro e w1 ⟨⟨r, rfl, hr13⟩, rfl⟩
                cases r with
                | false =>
                  go_wp2
                  go_ret
                  exact ⟨rfl, Below.refl _ _⟩
                | true =>
                  have LO : Hid (∀ i, i < n → (dn + 1) / 2 ≤ len i) := hr13 rfl
                  clear hr13
                  go_wp2_with fail
                  refine (sorted_any (some ⟨b, o, none⟩) n c len X w F.out (by omega)).mono ?_
                  rintro e w1 ⟨⟨r, rfl, hr14⟩, q, rfl⟩
                  cases r with
                  | false =>
                    go_wp2
                    go_ret
                    exact ⟨rfl, below_drewN (Below.refl _ _) _⟩
                  | true =>
                    have SO : Hid (∀ i, i + 1 < n → cmpB (X i) (len i) (X (i + 1)) (len (i + 1)) ≤ 0) := hr14 rfl
                    clear hr14
                    go_wp2_with fail
                    refine (clone_any (some ⟨b, o, none⟩) n c len X (w.drewN q) F.out hn2 HL.out).mono ?_
                    rintro e w3 ⟨⟨a', c', rfl, hc', hI3⟩, hb3⟩
                    have F3 : Hid (IDs w3 a' n len X ∧ Below w.heap.size w w3) := ⟨hI3, (below_drewN (Below.refl _ w) q).trans hb3⟩
                    clear hI3 hb3 ek lck
                    obtain ⟨b', o', ak', ck', rfl, ek3, _, _, rk3⟩ := F3.out.1 kn hkn
                    have C19 := prefix_any ak' (len kn) ck' dn (X kn) w3 rk3 (LO.out kn hkn) hdn
                    have PB : Hid (∀ e : Nat, (e + 1) / 2 ≤ len kn → ∀ j, 0 ≤ pre (X kn) e j ∧ pre (X kn) e j ≤ 255) := fun e he => pre_bd (fun j hj => rk3.bd j (by omega))
                    clear rk3
                    rw [NK.out] at ek3 C19
                    go_wp2_with fail
                    refine C19.mono ?_
                    clear C19
                    rintro e w4 ⟨rfl, hb4⟩
                    have F4 : Hid (IDs w4 (some ⟨b', o', none⟩) n len X ∧ Below w.heap.size w w4) := ⟨F3.out.1.of_cells (cells_below hb4), F3.out.2.trans (hb4.mono F3.out.2.size)⟩
                    clear hb4 ek3
                    have C16 := span16 n c' dn (some ⟨b', o', none⟩) len X (pre (X kn) dn) w4 F4.out.1 (fun j _ => PB.out dn (LO.out kn hkn) j) hdn hn2 LO.out (atb_mono SO.out LO.out (pre_odd (X kn) dn))
                    have C16H : Hid (Calls Try.prog 16 #[.agg (arr (pre (X kn) dn)), .int .i64 dn, .slice (some ⟨b', o', none⟩) n c'] w4 fun e w' =>
                      (∃ f x : Nat, e = .returned (.tuple #[.int .i64 f, .int .i64 x]) ∧ SpanIs n len X (pre (X kn) dn) dn f x) ∧ Below w4.heap.size w4 w') := C16
                    clear C16
                    generalize arr (pre (X kn) dn) = A at C16H ⊢
                    go_wp2_with fail
                    refine C16H.out.mono ?_
                    clear C16H
                    rintro e w5 ⟨⟨f, x, rfl, hS⟩, hb5⟩
                    have F5 : Hid (IDs w5 (some ⟨b', o', none⟩) n len X ∧ Below w.heap.size w w5) := ⟨F4.out.1.of_cells (cells_below hb5), F4.out.2.trans (hb5.mono F4.out.2.size)⟩
                    clear hb5
                    have BL := block_of SO.out LO.out hS
                    have BH : Hid (Block n X kn dn f x) := BL
                    have ⟨g1, g2⟩ := BL.holds hkn
                    have g3 : f ≤ x := BL.1
                    have g4 : x ≤ n := BL.2.1
                    clear hS BL
                    obtain ⟨ak5, ck5, ek5, lk5, rk5, D17⟩ := dig17 F5.out.1 hkn LO.out hdn
                    have R5 : Hid (Row w5 ak5 (len kn) (X kn)) := rk5
                    have DH : Hid (∀ t, t < n → ∃ ax cx, w5.cell? ⟨b', o' + t, none⟩ = some (.slice ax (len t) cx) ∧ ∀ W, (∀ b o v, w5.cell? ⟨b, o, none⟩ = some v → W.cell? ⟨b, o, none⟩ = some v) →
                            Calls Try.prog 17 #[.slice ax (len t) cx, .slice ak5 (len kn) ck5, .int .i64 dn] W fun e w' => e = .returned (.int .i64 (dg X kn dn t)) ∧ w' = W) := D17
                    clear rk5 D17
                    rw [NK.out] at ek5
                    go_wp2
                    go_loopw [9] (fun s wr => ∃ i : Nat, s = .int .i64 i ∧ f ≤ i ∧ i ≤ x ∧ Hid (∃ q, wr = w5.drewN q)) (fun s _ => x - (intOf s).toNat)
                    case atStart => exact ⟨f, rfl, Nat.le_refl _, g3, (show Hid _ from ⟨0, rfl⟩)⟩
                    case round =>
                      obtain ⟨i, rfl, hi1, hi2, Q⟩ := hrel
                      have KW : Hid (∀ b o v, w5.cell? ⟨b, o, none⟩ = some v → wr.cell? ⟨b, o, none⟩ = some v) := by
                        obtain ⟨q, rfl⟩ := Q.out
                        exact fun _ _ _ h => h
                      have ekr : wr.cell? ⟨b', o' + kn, none⟩ = some (.slice ak5 nk ck5) := KW.out _ _ _ ek5
                      by_cases hlt : i < x
                      · obtain ⟨ax, cx, ex, CX⟩ := DH.out i (by omega)
                        have exr := KW.out _ _ _ ex
                        have C17 : ∀ m, Calls Try.prog 17 #[.slice ax (len i) cx, .slice ak5 nk ck5, .int .i64 dn] (wr.drewN m) fun e w' => e = .returned (.int .i64 0) ∧ w' = wr.drewN m := fun m => by
                          have := CX (wr.drewN m) (cells_drewN KW.out m)
                          rwa [BH.out.2.2.2.1 i hi1 hlt, NK.out] at this
                        have i1 : (i : Int) < n := by omega
                        clear CX ex
                        generalize len i = ni at exr C17
                        go_wp2
                        go_quiet ((go_at_call 17; exact Calls.quiet_of_same (C17 _)))
                        go_wp2
                        go_roundw
                        case rel => exact ⟨i + 1, by go_num, by omega, by omega, (show Hid _ from dq1 Q.out _)⟩
                        case measure => simp [intOf]; omega
                      · obtain rfl : x = i := by omega
                        have HB : Hid (Below w.heap.size w wr) := by
                          obtain ⟨q, rfl⟩ := Q.out
                          exact below_drewN F5.out.2 _
                        clear ek5
                        cases f with
                        | zero =>
                          have hde0 : decide ((0 : Int) < ((0 : Nat) : Int)) = false := by simp
                          go_wp2
                          go_quiet (fail)
                          go_wp2

                          have KW2 : Hid (∀ b o v, w5.cell? ⟨b, o, none⟩ = some v → (wr.drewN nq).cell? ⟨b, o, none⟩ = some v) := cells_drewN KW.out nq
                          have HB2 : Hid (Below w.heap.size w (wr.drewN nq)) := below_drewN HB.out nq
                          have ek2 : (wr.drewN nq).cell? ⟨b', o' + kn, none⟩ = some (.slice ak5 nk ck5) := ekr
                          clear ekr
                          generalize wr.drewN nq = W2 at KW2 HB2 ek2 ⊢
                          by_cases hxn : x < n
                          · obtain ⟨ay, cy, ey, CY⟩ := DH.out x hxn
                            have eyr := KW2.out _ _ _ ey
                            have hvy := BH.out.2.2.2.2 x (Nat.le_refl _) hxn
                            have CY2 : ∀ W, (∀ b o v, w5.cell? ⟨b, o, none⟩ = some v → W.cell? ⟨b, o, none⟩ = some v) → Calls Try.prog 17 #[.slice ay (len x) cy, .slice ak5 nk ck5, .int .i64 dn] W fun e w' => e = .returned (.int .i64 (dg X kn dn x)) ∧ w' = W := fun W hW => by
                              have := CY W hW
                              rwa [NK.out] at this
                            have j1 : (x : Int) < n := by omega
                            clear CY ey
                            generalize dg X kn dn x = vy at hvy CY2
                            generalize len x = ny at eyr CY2
                            have hvy0 : (vy == 0) = false := by simp; omega
                            go_quiet ((go_at_call 17; exact Calls.quiet_of_same (CY2 _ (cells_drewN KW2.out _))))
                            clear CY2 eyr hvy0
                            by_cases hd64 : dn = 64
                            · have z1 : ¬ (dn : Int) < 64 := by omega
                              go_wp2
                              go_ret
                              first | exact ⟨rfl, HB2.out⟩ | exact ⟨rfl, below_drewN HB2.out _⟩ | exact ⟨rfl, below_drewN (below_drewN HB2.out _) _⟩ | exact ⟨rfl, below_drewN (below_drewN (below_drewN HB2.out _) _) _⟩
                            · have z1 : (dn : Int) < 64 := by omega
                              by_cases hlen2 : dn + 1 ≤ 2 * nk
                              · have z2 : (dn : Int) + 1 ≤ 2 * (nk : Int) := by omega
                                have C13 : ∀ W, (∀ b o v, w5.cell? ⟨b, o, none⟩ = some v → W.cell? ⟨b, o, none⟩ = some v) → Calls Try.prog 13 #[.slice (some ⟨b', o', none⟩) n c', .int .i64 (((dn : Int) + 2) / 2)] W fun e w' => SaysIf e true (∀ i, i < n → (dn + 2) / 2 ≤ len i) ∧ W = w' := fun W hW => by
                                  have := long_any (some ⟨b', o', none⟩) n c' ((dn + 2) / 2) len X W (F5.out.1.of_cells hW) (by omega)
                                  rwa [show (((dn + 2) / 2 : Nat) : Int) = ((dn : Int) + 2) / 2 by omega] at this
                                go_wp2_with fail
                                refine (C13 _ (by exact KW2.out)).mono ?_
                                clear C13
                                rintro e w6 ⟨⟨r, rfl, hr⟩, rfl⟩
                                cases r with
                                | false =>
                                  go_wp2
                                  go_ret
                                  first | exact ⟨rfl, HB2.out⟩ | exact ⟨rfl, below_drewN HB2.out _⟩ | exact ⟨rfl, below_drewN (below_drewN HB2.out _) _⟩ | exact ⟨rfl, below_drewN (below_drewN (below_drewN HB2.out _) _) _⟩
                                | true =>
                                  have LO2 : Hid (∀ i, i < n → (dn + 1 + 1) / 2 ≤ len i) := hr rfl
                                  clear hr
                                  have C19 : ∀ W, (∀ b o v, w5.cell? ⟨b, o, none⟩ = some v → W.cell? ⟨b, o, none⟩ = some v) → Calls Try.prog 19 #[.slice ak5 nk ck5, .int .i64 ((dn : Int) + 1)] W fun e w' => e = .returned (.agg (arr (pre (X kn) (dn + 1)))) ∧ Below W.heap.size W w' := fun W hW => by
                                    have := prefix_any ak5 (len kn) ck5 (dn + 1) (X kn) W (R5.out.of_cells hW) (LO2.out kn hkn) (by omega)
                                    rwa [NK.out] at this
                                  go_wp2_with fail
                                  refine (C19 _ (by exact KW2.out)).mono ?_
                                  clear C19
                                  rintro e w7 ⟨rfl, hb7⟩
                                  have F7 : Hid (IDs w7 (some ⟨b', o', none⟩) n len X ∧ Below w.heap.size w w7) := by
                                    refine ⟨F5.out.1.of_cells (fun b o v h => cells_below hb7 b o v (KW2.out b o v h)), ?_⟩
                                    first | exact HB2.out.trans (hb7.mono HB2.out.size) | exact (below_drewN HB2.out _).trans (hb7.mono HB2.out.size) | exact (below_drewN (below_drewN HB2.out _) _).trans (hb7.mono HB2.out.size)
                                  clear hb7
                                  have C16 := span16 n c' (dn + 1) (some ⟨b', o', none⟩) len X (pre (X kn) (dn + 1)) w7 F7.out.1 (fun j _ => PB.out (dn + 1) (LO2.out kn hkn) j) (by omega) hn2 LO2.out (atb_mono SO.out LO2.out (pre_odd (X kn) (dn + 1)))
                                  have C16H : Hid (Calls Try.prog 16 #[.agg (arr (pre (X kn) (dn + 1))), .int .i64 ((dn : Int) + 1), .slice (some ⟨b', o', none⟩) n c'] w7 fun e w' =>
                                    (∃ f x : Nat, e = .returned (.tuple #[.int .i64 f, .int .i64 x]) ∧ SpanIs n len X (pre (X kn) (dn + 1)) (dn + 1) f x) ∧ Below w7.heap.size w7 w') := C16
                                  clear C16
                                  generalize arr (pre (X kn) (dn + 1)) = A2 at C16H ⊢
                                  go_wp2_with fail
                                  refine C16H.out.mono ?_
                                  clear C16H
                                  rintro e w8 ⟨⟨f2, x2, rfl, hS2⟩, hb8⟩
                                  have B2 := block_of SO.out LO2.out hS2
                                  have ⟨m1, m2⟩ := B2.holds hkn
                                  have ⟨m3, m4⟩ := BH.out.next B2 hkn
                                  have HB8 : Hid (Below w.heap.size w w8) := F7.out.2.trans (hb8.mono F7.out.2.size)
                                  clear hS2 hb8 B2
                                  go_wp2
                                  go_ret
                                  exact ⟨rfl, HB8.out⟩
                              · have z2 : ¬ (dn : Int) + 1 ≤ 2 * (nk : Int) := by omega
                                go_wp2
                                go_ret
                                first | exact ⟨rfl, HB2.out⟩ | exact ⟨rfl, below_drewN HB2.out _⟩ | exact ⟨rfl, below_drewN (below_drewN HB2.out _) _⟩ | exact ⟨rfl, below_drewN (below_drewN (below_drewN HB2.out _) _) _⟩
                          · obtain rfl : n = x := by omega
                            have hde : decide ((n : Int) < (n : Int)) = false := by simp
                            go_quiet (fail)
                            by_cases hd64 : dn = 64
                            · have z1 : ¬ (dn : Int) < 64 := by omega
                              go_wp2
                              go_ret
                              first | exact ⟨rfl, HB2.out⟩ | exact ⟨rfl, below_drewN HB2.out _⟩ | exact ⟨rfl, below_drewN (below_drewN HB2.out _) _⟩ | exact ⟨rfl, below_drewN (below_drewN (below_drewN HB2.out _) _) _⟩
                            · have z1 : (dn : Int) < 64 := by omega
                              by_cases hlen2 : dn + 1 ≤ 2 * nk
                              · have z2 : (dn : Int) + 1 ≤ 2 * (nk : Int) := by omega
                                have C13 : ∀ W, (∀ b o v, w5.cell? ⟨b, o, none⟩ = some v → W.cell? ⟨b, o, none⟩ = some v) → Calls Try.prog 13 #[.slice (some ⟨b', o', none⟩) n c', .int .i64 (((dn : Int) + 2) / 2)] W fun e w' => SaysIf e true (∀ i, i < n → (dn + 2) / 2 ≤ len i) ∧ W = w' := fun W hW => by
                                  have := long_any (some ⟨b', o', none⟩) n c' ((dn + 2) / 2) len X W (F5.out.1.of_cells hW) (by omega)
                                  rwa [show (((dn + 2) / 2 : Nat) : Int) = ((dn : Int) + 2) / 2 by omega] at this
                                go_wp2_with fail
                                refine (C13 _ (by exact KW2.out)).mono ?_
                                clear C13
                                rintro e w6 ⟨⟨r, rfl, hr⟩, rfl⟩
                                cases r with
                                | false =>
                                  go_wp2
                                  go_ret
                                  first | exact ⟨rfl, HB2.out⟩ | exact ⟨rfl, below_drewN HB2.out _⟩ | exact ⟨rfl, below_drewN (below_drewN HB2.out _) _⟩ | exact ⟨rfl, below_drewN (below_drewN (below_drewN HB2.out _) _) _⟩
                                | true =>
                                  have LO2 : Hid (∀ i, i < n → (dn + 1 + 1) / 2 ≤ len i) := hr rfl
                                  clear hr
                                  have C19 : ∀ W, (∀ b o v, w5.cell? ⟨b, o, none⟩ = some v → W.cell? ⟨b, o, none⟩ = some v) → Calls Try.prog 19 #[.slice ak5 nk ck5, .int .i64 ((dn : Int) + 1)] W fun e w' => e = .returned (.agg (arr (pre (X kn) (dn + 1)))) ∧ Below W.heap.size W w' := fun W hW => by
                                    have := prefix_any ak5 (len kn) ck5 (dn + 1) (X kn) W (R5.out.of_cells hW) (LO2.out kn hkn) (by omega)
                                    rwa [NK.out] at this
                                  go_wp2_with fail
                                  refine (C19 _ (by exact KW2.out)).mono ?_
                                  clear C19
                                  rintro e w7 ⟨rfl, hb7⟩
                                  have F7 : Hid (IDs w7 (some ⟨b', o', none⟩) n len X ∧ Below w.heap.size w w7) := by
                                    refine ⟨F5.out.1.of_cells (fun b o v h => cells_below hb7 b o v (KW2.out b o v h)), ?_⟩
                                    first | exact HB2.out.trans (hb7.mono HB2.out.size) | exact (below_drewN HB2.out _).trans (hb7.mono HB2.out.size) | exact (below_drewN (below_drewN HB2.out _) _).trans (hb7.mono HB2.out.size)
                                  clear hb7
                                  have C16 := span16 n c' (dn + 1) (some ⟨b', o', none⟩) len X (pre (X kn) (dn + 1)) w7 F7.out.1 (fun j _ => PB.out (dn + 1) (LO2.out kn hkn) j) (by omega) hn2 LO2.out (atb_mono SO.out LO2.out (pre_odd (X kn) (dn + 1)))
                                  have C16H : Hid (Calls Try.prog 16 #[.agg (arr (pre (X kn) (dn + 1))), .int .i64 ((dn : Int) + 1), .slice (some ⟨b', o', none⟩) n c'] w7 fun e w' =>
                                    (∃ f x : Nat, e = .returned (.tuple #[.int .i64 f, .int .i64 x]) ∧ SpanIs n len X (pre (X kn) (dn + 1)) (dn + 1) f x) ∧ Below w7.heap.size w7 w') := C16
                                  clear C16
                                  generalize arr (pre (X kn) (dn + 1)) = A2 at C16H ⊢
                                  go_wp2_with fail
                                  refine C16H.out.mono ?_
                                  clear C16H
                                  rintro e w8 ⟨⟨f2, x2, rfl, hS2⟩, hb8⟩
                                  have B2 := block_of SO.out LO2.out hS2
                                  have ⟨m1, m2⟩ := B2.holds hkn
                                  have ⟨m3, m4⟩ := BH.out.next B2 hkn
                                  have HB8 : Hid (Below w.heap.size w w8) := F7.out.2.trans (hb8.mono F7.out.2.size)
                                  clear hS2 hb8 B2
                                  go_wp2
                                  go_ret
                                  exact ⟨rfl, HB8.out⟩
                              · have z2 : ¬ (dn : Int) + 1 ≤ 2 * (nk : Int) := by omega
                                go_wp2
                                go_ret
                                first | exact ⟨rfl, HB2.out⟩ | exact ⟨rfl, below_drewN HB2.out _⟩ | exact ⟨rfl, below_drewN (below_drewN HB2.out _) _⟩ | exact ⟨rfl, below_drewN (below_drewN (below_drewN HB2.out _) _) _⟩
                        | succ f' =>
                          obtain ⟨ax, cx, ex, CX⟩ := DH.out f' (by omega)
                          have exr := KW.out _ _ _ ex
                          have hvx := BH.out.2.2.1 f' (by omega)
                          have CX2 : ∀ m, Calls Try.prog 17 #[.slice ax (len f') cx, .slice ak5 nk ck5, .int .i64 dn] (wr.drewN m) fun e w' => e = .returned (.int .i64 (dg X kn dn f')) ∧ w' = wr.drewN m := fun m => by
                            have := CX (wr.drewN m) (cells_drewN KW.out m)
                            rwa [NK.out] at this
                          have i0 : (0 : Int) < (f' : Int) + 1 := by omega
                          have i1 : (f' : Int) < n := by omega
                          clear CX ex
                          generalize dg X kn dn f' = vx at hvx CX2
                          generalize len f' = nx at exr CX2
                          have hvx0 : (vx == 0) = false := by simp; omega
                          go_wp2
                          go_quiet ((go_at_call 17; exact Calls.quiet_of_same (CX2 _)))
                          go_wp2
                          clear CX2 exr hvx0

                          have KW2 : Hid (∀ b o v, w5.cell? ⟨b, o, none⟩ = some v → (wr.drewN nq).cell? ⟨b, o, none⟩ = some v) := cells_drewN KW.out nq
                          have HB2 : Hid (Below w.heap.size w (wr.drewN nq)) := below_drewN HB.out nq
                          have ek2 : (wr.drewN nq).cell? ⟨b', o' + kn, none⟩ = some (.slice ak5 nk ck5) := ekr
                          clear ekr
                          generalize wr.drewN nq = W2 at KW2 HB2 ek2 ⊢
                          by_cases hxn : x < n
                          · obtain ⟨ay, cy, ey, CY⟩ := DH.out x hxn
                            have eyr := KW2.out _ _ _ ey
                            have hvy := BH.out.2.2.2.2 x (Nat.le_refl _) hxn
                            have CY2 : ∀ W, (∀ b o v, w5.cell? ⟨b, o, none⟩ = some v → W.cell? ⟨b, o, none⟩ = some v) → Calls Try.prog 17 #[.slice ay (len x) cy, .slice ak5 nk ck5, .int .i64 dn] W fun e w' => e = .returned (.int .i64 (dg X kn dn x)) ∧ w' = W := fun W hW => by
                              have := CY W hW
                              rwa [NK.out] at this
                            have j1 : (x : Int) < n := by omega
                            clear CY ey
                            generalize dg X kn dn x = vy at hvy CY2
                            generalize len x = ny at eyr CY2
                            have hvy0 : (vy == 0) = false := by simp; omega
                            go_quiet ((go_at_call 17; exact Calls.quiet_of_same (CY2 _ (cells_drewN KW2.out _))))
                            clear CY2 eyr hvy0
                            by_cases hd64 : dn = 64
                            · have z1 : ¬ (dn : Int) < 64 := by omega
                              go_wp2
                              go_ret
                              first | exact ⟨rfl, HB2.out⟩ | exact ⟨rfl, below_drewN HB2.out _⟩ | exact ⟨rfl, below_drewN (below_drewN HB2.out _) _⟩ | exact ⟨rfl, below_drewN (below_drewN (below_drewN HB2.out _) _) _⟩
                            · have z1 : (dn : Int) < 64 := by omega
                              by_cases hlen2 : dn + 1 ≤ 2 * nk
                              · have z2 : (dn : Int) + 1 ≤ 2 * (nk : Int) := by omega
                                have C13 : ∀ W, (∀ b o v, w5.cell? ⟨b, o, none⟩ = some v → W.cell? ⟨b, o, none⟩ = some v) → Calls Try.prog 13 #[.slice (some ⟨b', o', none⟩) n c', .int .i64 (((dn : Int) + 2) / 2)] W fun e w' => SaysIf e true (∀ i, i < n → (dn + 2) / 2 ≤ len i) ∧ W = w' := fun W hW => by
                                  have := long_any (some ⟨b', o', none⟩) n c' ((dn + 2) / 2) len X W (F5.out.1.of_cells hW) (by omega)
                                  rwa [show (((dn + 2) / 2 : Nat) : Int) = ((dn : Int) + 2) / 2 by omega] at this
                                go_wp2_with fail
                                refine (C13 _ (by exact KW2.out)).mono ?_
                                clear C13
                                rintro e w6 ⟨⟨r, rfl, hr⟩, rfl⟩
                                cases r with
                                | false =>
                                  go_wp2
                                  go_ret
                                  first | exact ⟨rfl, HB2.out⟩ | exact ⟨rfl, below_drewN HB2.out _⟩ | exact ⟨rfl, below_drewN (below_drewN HB2.out _) _⟩ | exact ⟨rfl, below_drewN (below_drewN (below_drewN HB2.out _) _) _⟩
                                | true =>
                                  have LO2 : Hid (∀ i, i < n → (dn + 1 + 1) / 2 ≤ len i) := hr rfl
                                  clear hr
                                  have C19 : ∀ W, (∀ b o v, w5.cell? ⟨b, o, none⟩ = some v → W.cell? ⟨b, o, none⟩ = some v) → Calls Try.prog 19 #[.slice ak5 nk ck5, .int .i64 ((dn : Int) + 1)] W fun e w' => e = .returned (.agg (arr (pre (X kn) (dn + 1)))) ∧ Below W.heap.size W w' := fun W hW => by
                                    have := prefix_any ak5 (len kn) ck5 (dn + 1) (X kn) W (R5.out.of_cells hW) (LO2.out kn hkn) (by omega)
                                    rwa [NK.out] at this
                                  go_wp2_with fail
                                  refine (C19 _ (by exact KW2.out)).mono ?_
                                  clear C19
                                  rintro e w7 ⟨rfl, hb7⟩
                                  have F7 : Hid (IDs w7 (some ⟨b', o', none⟩) n len X ∧ Below w.heap.size w w7) := by
                                    refine ⟨F5.out.1.of_cells (fun b o v h => cells_below hb7 b o v (KW2.out b o v h)), ?_⟩
                                    first | exact HB2.out.trans (hb7.mono HB2.out.size) | exact (below_drewN HB2.out _).trans (hb7.mono HB2.out.size) | exact (below_drewN (below_drewN HB2.out _) _).trans (hb7.mono HB2.out.size)
                                  clear hb7
                                  have C16 := span16 n c' (dn + 1) (some ⟨b', o', none⟩) len X (pre (X kn) (dn + 1)) w7 F7.out.1 (fun j _ => PB.out (dn + 1) (LO2.out kn hkn) j) (by omega) hn2 LO2.out (atb_mono SO.out LO2.out (pre_odd (X kn) (dn + 1)))
                                  have C16H : Hid (Calls Try.prog 16 #[.agg (arr (pre (X kn) (dn + 1))), .int .i64 ((dn : Int) + 1), .slice (some ⟨b', o', none⟩) n c'] w7 fun e w' =>
                                    (∃ f x : Nat, e = .returned (.tuple #[.int .i64 f, .int .i64 x]) ∧ SpanIs n len X (pre (X kn) (dn + 1)) (dn + 1) f x) ∧ Below w7.heap.size w7 w') := C16
                                  clear C16
                                  generalize arr (pre (X kn) (dn + 1)) = A2 at C16H ⊢
                                  go_wp2_with fail
                                  refine C16H.out.mono ?_
                                  clear C16H
                                  rintro e w8 ⟨⟨f2, x2, rfl, hS2⟩, hb8⟩
                                  have B2 := block_of SO.out LO2.out hS2
                                  have ⟨m1, m2⟩ := B2.holds hkn
                                  have ⟨m3, m4⟩ := BH.out.next B2 hkn
                                  have HB8 : Hid (Below w.heap.size w w8) := F7.out.2.trans (hb8.mono F7.out.2.size)
                                  clear hS2 hb8 B2
                                  go_wp2
                                  go_ret
                                  exact ⟨rfl, HB8.out⟩
                              · have z2 : ¬ (dn : Int) + 1 ≤ 2 * (nk : Int) := by omega
                                go_wp2
                                go_ret
                                first | exact ⟨rfl, HB2.out⟩ | exact ⟨rfl, below_drewN HB2.out _⟩ | exact ⟨rfl, below_drewN (below_drewN HB2.out _) _⟩ | exact ⟨rfl, below_drewN (below_drewN (below_drewN HB2.out _) _) _⟩
                          · obtain rfl : n = x := by omega
                            have hde : decide ((n : Int) < (n : Int)) = false := by simp
                            go_quiet (fail)
                            by_cases hd64 : dn = 64
                            · have z1 : ¬ (dn : Int) < 64 := by omega
                              go_wp2
                              go_ret
                              first | exact ⟨rfl, HB2.out⟩ | exact ⟨rfl, below_drewN HB2.out _⟩ | exact ⟨rfl, below_drewN (below_drewN HB2.out _) _⟩ | exact ⟨rfl, below_drewN (below_drewN (below_drewN HB2.out _) _) _⟩
                            · have z1 : (dn : Int) < 64 := by omega
                              by_cases hlen2 : dn + 1 ≤ 2 * nk
                              · have z2 : (dn : Int) + 1 ≤ 2 * (nk : Int) := by omega
                                have C13 : ∀ W, (∀ b o v, w5.cell? ⟨b, o, none⟩ = some v → W.cell? ⟨b, o, none⟩ = some v) → Calls Try.prog 13 #[.slice (some ⟨b', o', none⟩) n c', .int .i64 (((dn : Int) + 2) / 2)] W fun e w' => SaysIf e true (∀ i, i < n → (dn + 2) / 2 ≤ len i) ∧ W = w' := fun W hW => by
                                  have := long_any (some ⟨b', o', none⟩) n c' ((dn + 2) / 2) len X W (F5.out.1.of_cells hW) (by omega)
                                  rwa [show (((dn + 2) / 2 : Nat) : Int) = ((dn : Int) + 2) / 2 by omega] at this
                                go_wp2_with fail
                                refine (C13 _ (by exact KW2.out)).mono ?_
                                clear C13
                                rintro e w6 ⟨⟨r, rfl, hr⟩, rfl⟩
                                cases r with
                                | false =>
                                  go_wp2
                                  go_ret
                                  first | exact ⟨rfl, HB2.out⟩ | exact ⟨rfl, below_drewN HB2.out _⟩ | exact ⟨rfl, below_drewN (below_drewN HB2.out _) _⟩ | exact ⟨rfl, below_drewN (below_drewN (below_drewN HB2.out _) _) _⟩
                                | true =>
                                  have LO2 : Hid (∀ i, i < n → (dn + 1 + 1) / 2 ≤ len i) := hr rfl
                                  clear hr
                                  have C19 : ∀ W, (∀ b o v, w5.cell? ⟨b, o, none⟩ = some v → W.cell? ⟨b, o, none⟩ = some v) → Calls Try.prog 19 #[.slice ak5 nk ck5, .int .i64 ((dn : Int) + 1)] W fun e w' => e = .returned (.agg (arr (pre (X kn) (dn + 1)))) ∧ Below W.heap.size W w' := fun W hW => by
                                    have := prefix_any ak5 (len kn) ck5 (dn + 1) (X kn) W (R5.out.of_cells hW) (LO2.out kn hkn) (by omega)
                                    rwa [NK.out] at this
                                  go_wp2_with fail
                                  refine (C19 _ (by exact KW2.out)).mono ?_
                                  clear C19
                                  rintro e w7 ⟨rfl, hb7⟩
                                  have F7 : Hid (IDs w7 (some ⟨b', o', none⟩) n len X ∧ Below w.heap.size w w7) := by
                                    refine ⟨F5.out.1.of_cells (fun b o v h => cells_below hb7 b o v (KW2.out b o v h)), ?_⟩
                                    first | exact HB2.out.trans (hb7.mono HB2.out.size) | exact (below_drewN HB2.out _).trans (hb7.mono HB2.out.size) | exact (below_drewN (below_drewN HB2.out _) _).trans (hb7.mono HB2.out.size)
                                  clear hb7
                                  have C16 := span16 n c' (dn + 1) (some ⟨b', o', none⟩) len X (pre (X kn) (dn + 1)) w7 F7.out.1 (fun j _ => PB.out (dn + 1) (LO2.out kn hkn) j) (by omega) hn2 LO2.out (atb_mono SO.out LO2.out (pre_odd (X kn) (dn + 1)))
                                  have C16H : Hid (Calls Try.prog 16 #[.agg (arr (pre (X kn) (dn + 1))), .int .i64 ((dn : Int) + 1), .slice (some ⟨b', o', none⟩) n c'] w7 fun e w' =>
                                    (∃ f x : Nat, e = .returned (.tuple #[.int .i64 f, .int .i64 x]) ∧ SpanIs n len X (pre (X kn) (dn + 1)) (dn + 1) f x) ∧ Below w7.heap.size w7 w') := C16
                                  clear C16
                                  generalize arr (pre (X kn) (dn + 1)) = A2 at C16H ⊢
                                  go_wp2_with fail
                                  refine C16H.out.mono ?_
                                  clear C16H
                                  rintro e w8 ⟨⟨f2, x2, rfl, hS2⟩, hb8⟩
                                  have B2 := block_of SO.out LO2.out hS2
                                  have ⟨m1, m2⟩ := B2.holds hkn
                                  have ⟨m3, m4⟩ := BH.out.next B2 hkn
                                  have HB8 : Hid (Below w.heap.size w w8) := F7.out.2.trans (hb8.mono F7.out.2.size)
                                  clear hS2 hb8 B2
                                  go_wp2
                                  go_ret
                                  exact ⟨rfl, HB8.out⟩
                              · have z2 : ¬ (dn : Int) + 1 ≤ 2 * (nk : Int) := by omega
                                go_wp2
                                go_ret
                                first | exact ⟨rfl, HB2.out⟩ | exact ⟨rfl, below_drewN HB2.out _⟩ | exact ⟨rfl, below_drewN (below_drewN HB2.out _) _⟩ | exact ⟨rfl, below_drewN (below_drewN (below_drewN HB2.out _) _) _⟩

end Go.Proofs.Qxb6604526a
