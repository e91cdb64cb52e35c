/-
  Seat b6604526a: (*idPrefix).span and ZZSpan.
-/
import Derived.Test.Qxb6604526aSearch
namespace Go.Proofs.Qxb6604526a
open Go.RowKit

/-- What span finds: from first up to e. -/
def SpanIs (n : Nat) (len : Nat → Nat) (X : Nat → Nat → Int) (P : Nat → Int) (d first e : Nat) : Prop :=
  first ≤ e ∧ e ≤ n ∧ (∀ t, t < first → atb (X t) (len t) P ((d + 1) / 2) = false) ∧ (∀ t, first ≤ t → t < n → atb (X t) (len t) P ((d + 1) / 2) = true) ∧
  (∀ t, first ≤ t → t < e → mat (X t) P d = true) ∧ (e < n → mat (X e) P d = false)

/-- All that span's own closures read. -/
def Ready (W : World) (g h k l n c d : Nat) (a : Option Addr) (len : Nat → Nat) (X : Nat → Nat → Int) (P : Nat → Int) : Prop :=
  IDs W a n len X ∧ Row W (some ⟨g, 0, none⟩) 32 P ∧ W.cell? ⟨g, 32, none⟩ = some (.int .i64 d) ∧ W.cell? ⟨h, 0, none⟩ = some (.slice a n c) ∧
  W.cell? ⟨k, 0, none⟩ = some (.func (.func 33) #[] #[.pointer (some ⟨h, 0, none⟩)]) ∧ W.cell? ⟨l, 0, none⟩ = some (.slice (some ⟨g, 0, none⟩) ((d + 1) / 2) 32)

theorem Ready.drewN {W : World} {g h k l n c d : Nat} {a : Option Addr} {len : Nat → Nat} {X : Nat → Nat → Int} {P : Nat → Int} (r : Ready W g h k l n c d a len X P) (q : Nat) : Ready (W.drewN q) g h k l n c d a len X P := r

theorem ready_new (w : World) (g h n c d : Nat) (a : Option Addr) (len : Nat → Nat) (X : Nat → Nat → Int) (P : Nat → Int) (hI : IDs w a n len X) (hp : Row w (some ⟨g, 0, none⟩) 32 P) (hg : w.cell? ⟨g, 32, none⟩ = some (.int .i64 d)) (hh : w.cell? ⟨h, 0, none⟩ = some (.slice a n c)) :
    Ready ((w.alloc (.cells #[.func (.func 33) #[] #[.pointer (some ⟨h, 0, none⟩)]] 67)).alloc (.cells #[.slice (some ⟨g, 0, none⟩) ((d + 1) / 2) 32] 37)).drew g h w.heap.size (w.heap.size + 1) n c d a len X P ∧
    Below w.heap.size w ((w.alloc (.cells #[.func (.func 33) #[] #[.pointer (some ⟨h, 0, none⟩)]] 67)).alloc (.cells #[.slice (some ⟨g, 0, none⟩) ((d + 1) / 2) 32] 37)).drew := by
  have hb : Below w.heap.size w ((w.alloc (.cells #[.func (.func 33) #[] #[.pointer (some ⟨h, 0, none⟩)]] 67)).alloc (.cells #[.slice (some ⟨g, 0, none⟩) ((d + 1) / 2) 32] 37)).drew :=
    (((Below.refl _ w).alloc (Nat.le_refl _) _).alloc (by simp) _).drew
  have hc := cells_below hb
  refine ⟨⟨hI.of_cells hc, hp.of_cells hc, hc _ _ _ hg, hc _ _ _ hh, ?_, ?_⟩, hb⟩
  · go_simp
  · go_simp

set_option maxHeartbeats 2000000 in
theorem span32 (g h n c d : Nat) (a : Option Addr) (len : Nat → Nat) (X : Nat → Nat → Int) (P : Nat → Int) (w : World) (hI : IDs w a n len X) (hp : Row w (some ⟨g, 0, none⟩) 32 P) (hg : w.cell? ⟨g, 32, none⟩ = some (.int .i64 d)) (hh : w.cell? ⟨h, 0, none⟩ = some (.slice a n c))
    (hd : d ≤ 64) (hn : n ≤ 65536) (hlong : ∀ i, i < n → (d + 1) / 2 ≤ len i) (hmono : ∀ i j, i ≤ j → j < n → atb (X i) (len i) P ((d + 1) / 2) = true → atb (X j) (len j) P ((d + 1) / 2) = true) :
    Calls Try.prog 32 #[.pointer (some ⟨g, 0, none⟩), .int .i64 n, .func (.func 33) #[] #[.pointer (some ⟨h, 0, none⟩)]] w fun e w' =>
      (∃ f x : Nat, e = .returned (.tuple #[.int .i64 f, .int .i64 x]) ∧ SpanIs n len X P d f x) ∧ Below w.heap.size w w' := by
  have hgb : g < w.heap.size := World.block_lt_of_cell? w _ hg
  have i0 : (0 : Int) ≤ ((d : Int) + 1) / 2 := by omega
  have i1 : ((d : Int) + 1) / 2 ≤ 32 := by omega
  have NW := ready_new w g h n c d a len X P hI hp hg hh
  have HW : Hid (Ready ((w.alloc (.cells #[.func (.func 33) #[] #[.pointer (some ⟨h, 0, none⟩)]] 67)).alloc (.cells #[.slice (some ⟨g, 0, none⟩) ((d + 1) / 2) 32] 37)).drew g h w.heap.size (w.heap.size + 1) n c d a len X P ∧
    Below w.heap.size w ((w.alloc (.cells #[.func (.func 33) #[] #[.pointer (some ⟨h, 0, none⟩)]] 67)).alloc (.cells #[.slice (some ⟨g, 0, none⟩) ((d + 1) / 2) 32] 37)).drew) := NW
  have HL : Hid (∀ i, i < n → (d + 1) / 2 ≤ len i) := hlong
  have HM : Hid (∀ i j, i ≤ j → j < n → atb (X i) (len i) P ((d + 1) / 2) = true → atb (X j) (len j) P ((d + 1) / 2) = true) := hmono
  clear NW hI hp hh hlong hmono
  go_enter Try.func32, Try.ntmps32
  go_wp2
  go_region
  go_wp2_with fail
  generalize ((w.alloc (.cells #[.func (.func 33) #[] #[.pointer (some ⟨h, 0, none⟩)]] 67)).alloc (.cells #[.slice (some ⟨g, 0, none⟩) ((d + 1) / 2) 32] 37)).drew = W at HW ⊢
  clear hg hgb
  have C := search_any n w.heap.size (w.heap.size + 1) (fun i => atb (X i) (len i) P ((d + 1) / 2)) W hn (fun m i hi => by
    obtain ⟨rI, rP, rg, rh, rk, rl⟩ := HW.out.1.drewN m
    obtain ⟨b, o, ai, ci, rfl, e0, l0, lc, r0⟩ := rI i hi
    exact low45 h n c b o i (len i) ci w.heap.size (w.heap.size + 1) g ((d + 1) / 2) ai (X i) P (W.drewN m) rh e0 hi rk rl r0 (rP.short (by omega))) HM.out
  refine C.mono ?_
  clear C
  rintro e w1 ⟨⟨x, rfl, hx, hx1, hx2⟩, q, rfl⟩
  have HX : Hid ((∀ t, t < x → atb (X t) (len t) P ((d + 1) / 2) = false) ∧ ∀ t, x ≤ t → t < n → atb (X t) (len t) P ((d + 1) / 2) = true) := ⟨hx1, hx2⟩
  clear hx1 hx2
  go_wp2
  go_loopw [7] (fun s wr => ∃ y : Nat, s = .int .i64 y ∧ x ≤ y ∧ y ≤ n ∧ Hid (∃ q, wr = W.drewN q) ∧ Hid (∀ t, x ≤ t → t < y → mat (X t) P d = true)) (fun s _ => n - (intOf s).toNat)
  case atStart => exact ⟨x, rfl, Nat.le_refl _, hx, (show Hid _ from ⟨q, rfl⟩), (show Hid _ from fun t h1 h2 => by omega)⟩
  case round =>
    obtain ⟨y, rfl, hxy, hy, Q, I⟩ := hrel
    have R : Ready wr g h w.heap.size (w.heap.size + 1) n c d a len X P := by
      obtain ⟨q, rfl⟩ := Q.out
      exact HW.out.1.drewN q
    have HB : Hid (∃ q, wr = W.drewN q) := Q
    by_cases hlt : y < n
    · obtain ⟨rI, rP, rg, rh, rk, rl⟩ := R
      obtain ⟨b, o, ai, ci, rfl, e0, l0, lc, r0⟩ := rI y hlt
      have C1 := id33 h n c b o y (len y) ci ai wr rh e0 hlt
      have C2 := matches_any ai (len y) ci g d (X y) P wr r0 rP rg hd (HL.out y hlt) lc
      clear rI rP r0
      have J : Hid ((mat (X y) P d = true → ∀ t, x ≤ t → t < y + 1 → mat (X t) P d = true) ∧ (mat (X y) P d = false → SpanIs n len X P d x y)) := ⟨fun h t h1 h2 => by
        by_cases e : t = y
        · subst e; exact h
        · exact I.out t h1 (by omega), fun h => ⟨hxy, hy, HX.out.1, HX.out.2, I.out, fun _ => h⟩⟩
      generalize mat (X y) P d = v at C2 J
      generalize len y = ny at *
      cases v with
      | true =>
        go_wp2_with fail
        refine C1.mono ?_
        rintro e w2 ⟨rfl, rfl⟩
        go_wp2_with fail
        refine C2.mono ?_
        rintro e w2 ⟨rfl, q2, rfl⟩
        clear C1 C2
        go_wp2
        go_roundw
        case rel => exact ⟨y + 1, by go_num, by omega, by omega, (show Hid _ from dq1 Q.out _), (show Hid _ from J.out.1 (by simp))⟩
        case measure => simp [intOf]; omega
      | false =>
        go_wp2_with fail
        refine C1.mono ?_
        rintro e w2 ⟨rfl, rfl⟩
        go_wp2_with fail
        refine C2.mono ?_
        rintro e w2 ⟨rfl, q2, rfl⟩
        clear C1 C2
        go_wp2
        go_ret2
        refine ⟨⟨x, y, rfl, J.out.2 (by simp)⟩, ?_⟩
        obtain ⟨q3, e3⟩ := dq1 Q.out q2
        rw [e3]
        exact below_drewN HW.out.2 _
    · obtain rfl : n = y := by omega
      clear R
      go_wp2
      go_ret2
      refine ⟨⟨x, n, rfl, hxy, hy, HX.out.1, HX.out.2, I.out, fun h => by omega⟩, ?_⟩
      obtain ⟨q3, e3⟩ := Q.out
      rw [e3]
      exact below_drewN HW.out.2 _

end Go.Proofs.Qxb6604526a
