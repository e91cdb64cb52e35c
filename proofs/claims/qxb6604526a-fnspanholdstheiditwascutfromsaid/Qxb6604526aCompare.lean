/-
  Seat b6604526a: bytes.Compare and bytes.Equal over rows of bytes.
-/
import Derived.Test.Qxb6604526aClone
import Derived.Laws.BytesArg
import Derived.Laws.Externs
import GoSem.Extern.BytealgCompare
namespace Go.Proofs.Qxb6604526a
open Go.RowKit

/-- The bytes of a row. -/
def bytesArr (f : Nat → Int) (n : Nat) : ByteArray := ⟨((List.range n).map fun j => (f j).toNat.toUInt8).toArray⟩

theorem bytesArr_size (f : Nat → Int) (n : Nat) : (bytesArr f n).size = n := by
  show (((List.range n).map fun j => (f j).toNat.toUInt8).toArray).size = n
  simp

theorem bytesArr_get (f : Nat → Int) (n i : Nat) (hi : i < n) : (bytesArr f n)[i]! = (f i).toNat.toUInt8 := by
  rw [getElem!_pos (bytesArr f n) i (by rw [bytesArr_size]; exact hi)]
  show (((List.range n).map fun j => (f j).toNat.toUInt8).toArray)[i]'(by simpa using hi) = _
  simp

theorem byte_eq {x y : Int} (hx : 0 ≤ x) (hx2 : x ≤ 255) (hy : 0 ≤ y) (hy2 : y ≤ 255) : (x.toNat.toUInt8 = y.toNat.toUInt8) ↔ x = y := by
  constructor
  · intro h
    have := congrArg UInt8.toNat h
    simp at this
    omega
  · intro h
    rw [h]

theorem byte_lt {x y : Int} (hx : 0 ≤ x) (hx2 : x ≤ 255) (hy : 0 ≤ y) (hy2 : y ≤ 255) : (x.toNat.toUInt8 < y.toNat.toUInt8) ↔ x < y := by
  rw [UInt8.lt_iff_toNat_lt]
  simp
  omega

theorem cmp_rows {f g : Nat → Int} {n m : Nat} (hf : ∀ j, j < n → 0 ≤ f j ∧ f j ≤ 255) (hg : ∀ j, j < m → 0 ≤ g j ∧ g j ≤ 255) : Extern.BytealgCompare.cmp (bytesArr f n) (bytesArr g m) = cmpB f n g m := by
  unfold Extern.BytealgCompare.cmp
  simp only [bytesArr_size]
  have hp : ∀ i, i < min n m → (((bytesArr f n)[i]! != (bytesArr g m)[i]!) = true ↔ f i ≠ g i) := fun i hi => by
    rw [bytesArr_get f n i (by omega), bytesArr_get g m i (by omega), bne_iff_ne, ne_eq, byte_eq (hf i (by omega)).1 (hf i (by omega)).2 (hg i (by omega)).1 (hg i (by omega)).2]
  split
  · rename_i i hi
    rw [List.find?_range_eq_some] at hi
    obtain ⟨h1, h2, h3⟩ := hi
    have him : i < min n m := by simpa using h2
    have hne := (hp i him).1 h1
    have h0 : cmpN f g i = 0 := (cmpN_eq_iff f g i).2 fun j hj => by
      have hj2 := h3 j hj
      have := hp j (by omega)
      by_cases e : f j = g j
      · exact e
      · rw [this.2 e] at hj2; cases hj2
    have e := cmpN_stop h0 hne him
    unfold cmpB
    rw [bytesArr_get f n i (by omega), bytesArr_get g m i (by omega)]
    rw [if_neg (show ¬ cmpN f g (min n m) = 0 by
      rw [e]
      rcases sg_cases (f i) (g i) with ⟨_, h'⟩ | ⟨h', _⟩ | ⟨_, h'⟩
      · rw [h']; decide
      · exact absurd h' hne
      · rw [h']; decide), e]
    have hl := byte_lt (hf i (by omega)).1 (hf i (by omega)).2 (hg i (by omega)).1 (hg i (by omega)).2
    by_cases h : f i < g i
    · rw [if_pos (hl.2 h), sg_lt h]
    · rw [if_neg (fun h' => h (hl.1 h')), sg_gt (by omega)]
  · rename_i hi
    have h0 : cmpN f g (min n m) = 0 := (cmpN_eq_iff f g _).2 fun j hj => by
      have hj2 := List.find?_eq_none.1 hi j (by simpa using hj)
      have := hp j hj
      by_cases e : f j = g j
      · exact e
      · exact absurd (this.2 e) hj2
    unfold cmpB
    rw [if_pos h0]
    unfold sg
    repeat' split
    all_goals omega

section
variable {P : Program}

theorem run_loadBytes (w : World) (b : Nat) : ∀ (n o : Nat) (f : Nat → Int) (acc : ByteArray), (∀ j, j < n → w.cell? ⟨b, o + j, none⟩ = some (.int .u8 (f j))) →
    (Extern.Bytes.loadBytes ⟨b, o, none⟩ n acc).run P w = .ok ⟨acc.data ++ ((List.range n).map fun j => (f j).toNat.toUInt8).toArray⟩ w
  | 0, o, f, acc, _ => by simp [Extern.Bytes.loadBytes]
  | n + 1, o, f, acc, h => by
    have h0 := h 0 (by omega)
    have ih := run_loadBytes w b n (o + 1) (fun j => f (j + 1)) (acc.push (f 0).toNat.toUInt8) (fun j hj => by
      have := h (j + 1) (by omega)
      rwa [show o + (j + 1) = o + 1 + j by omega] at this)
    have hadd : (⟨b, o, none⟩ : Addr).add 1 = ⟨b, o + 1, none⟩ := by unfold Addr.add; split <;> simp_all
    rw [Nat.add_zero] at h0
    unfold Extern.Bytes.loadBytes
    simp only [Sem.run_bind, run_load, h0, Result.andThen, hadd]
    rw [ih]
    congr 1
    simp only [ByteArray.push, List.range_succ_eq_map, List.map_cons, List.map_map]
    congr 1
    apply Array.toList_inj.1
    simp

theorem run_bytesOf (w : World) (a : Option Addr) (n c : Nat) (f : Nat → Int) (h : Row w a n f) : (Extern.Bytes.bytesOf (.slice a n c)).run P w = .ok (bytesArr f n) w := by
  by_cases h0 : n = 0
  · subst h0
    cases a with
    | none => rfl
    | some ad => rfl
  · obtain ⟨b, o, rfl, hc⟩ := h.at (by omega)
    have := run_loadBytes (P := P) w b n o f .empty (fun j hj => (hc j hj).1)
    show (Extern.Bytes.loadBytes ⟨b, o, none⟩ n .empty).run P w = _
    rw [this]
    congr 1
    simp [bytesArr]

theorem run_compareRows (w : World) (a a' : Option Addr) (n c n' c' : Nat) (f g : Nat → Int) (hx : Row w a n f) (hy : Row w a' n' g) :
    (Extern.BytealgCompare.compare #[.slice a n c, .slice a' n' c']).run P w = .ok (.int .i64 (cmpB f n g n')) w := by
  change Sem.run P (do pure (goInt (Extern.BytealgCompare.cmp (← Extern.Bytes.bytesOf (.slice a n c)) (← Extern.Bytes.bytesOf (.slice a' n' c'))))) w = _
  simp only [Sem.run_bind, run_bytesOf w a n c f hx, run_bytesOf w a' n' c' g hy, Sem.run_pure, Result.andThen]
  rw [cmp_rows (fun j hj => by obtain ⟨_, _, _, _, d⟩ := hx j hj; exact d) (fun j hj => by obtain ⟨_, _, _, _, d⟩ := hy j hj; exact d)]
  rfl

end

theorem run_call48 (w : World) (a a' : Option Addr) (n c n' c' : Nat) (f g : Nat → Int) (hx : Row w a n f) (hy : Row w a' n' g) :
    (callFunc 48 #[.slice a n c, .slice a' n' c']).run Try.prog w = .ok (.value (.int .i64 (cmpB f n g n'))) w := by
  rw [run_callFunc_extern Try.func48 (by kernel_rfl) (by kernel_rfl) (by kernel_rfl) (e := Extern.BytealgCompare.compare) (by kernel_rfl), run_compareRows w a a' n c n' c' f g hx hy]
  rfl

theorem compare_any (a a' : Option Addr) (n c n' c' : Nat) (f g : Nat → Int) (w : World) (hx : Row w a n f) (hy : Row w a' n' g) :
    Calls Try.prog 43 #[.slice a n c, .slice a' n' c'] w fun e w' => e = .returned (.int .i64 (cmpB f n g n')) ∧ w' = w := by
  have hr := run_call48 w a a' n c n' c' f g hx hy
  clear hx hy
  generalize cmpB f n g n' = v at hr ⊢
  go_enter Try.func43, Try.ntmps43
  go_wp2
  go_ret
  exact ⟨rfl, rfl⟩

theorem strOf_row (f : Nat → Int) (n : Nat) : strOfNums ((List.range n).map f) = bytesArr f n := by
  unfold strOfNums bytesArr
  rw [List.map_map]
  rfl

theorem run_convRow (w : World) (a : Option Addr) (n c : Nat) (f : Nat → Int) (h : Row w a n f) : (convert 37 9 (.slice a n c)).run Try.prog w = .ok (.string (bytesArr f n)) w := by
  by_cases h0 : n = 0
  · subst h0
    cases a with
    | none => rw [run_convert_bytes_nil w 37 5 Try.underlying37 Try.underlying5 0 c 9 Try.underlying9]; rfl
    | some ad =>
      rw [run_convert_bytes_string w 37 9 5 _ 0 c Try.underlying37 Try.underlying5 Try.underlying9]
      simp [Conv.bytesToString, loadCells]
      rfl
  · obtain ⟨b, o, rfl, hc⟩ := h.at (by omega)
    rw [run_convert_bytes_arg w 37 5 Try.underlying37 Try.underlying5 b o n c ((List.range n).map f) (by simp) (fun i hi => by rw [(hc i hi).1]; simp [hi]) 9 Try.underlying9, strOf_row]

theorem equal_rows {f g : Nat → Int} {n : Nat} (hf : ∀ j, j < n → 0 ≤ f j ∧ f j ≤ 255) (hg : ∀ j, j < n → 0 ≤ g j ∧ g j ≤ 255) : ((bytesArr f n).toList == (bytesArr g n).toList) = decide (cmpN f g n = 0) := by
  rw [Bool.eq_iff_iff, beq_iff_eq, decide_eq_true_eq, cmpN_eq_iff, ByteArray.toList_eq, ByteArray.toList_eq]
  show ((List.range n).map fun j => (f j).toNat.toUInt8).toArray.toList = ((List.range n).map fun j => (g j).toNat.toUInt8).toArray.toList ↔ _
  simp only [List.map_inj_left, List.mem_range]
  constructor
  · intro h j hj
    exact (byte_eq (hf j hj).1 (hf j hj).2 (hg j hj).1 (hg j hj).2).1 (h j hj)
  · intro h j hj
    rw [h j hj]

theorem Row.bd {w : World} {a : Option Addr} {n : Nat} {f : Nat → Int} (h : Row w a n f) : ∀ j, j < n → 0 ≤ f j ∧ f j ≤ 255 := fun j hj => by
  obtain ⟨_, _, _, _, d⟩ := h j hj
  exact d

theorem equal_any (a a' : Option Addr) (n c c' : Nat) (f g : Nat → Int) (w : World) (hx : Row w a n f) (hy : Row w a' n g) :
    Calls Try.prog 49 #[.slice a n c, .slice a' n c'] w fun e w' => e = .returned (.bool (decide (cmpN f g n = 0))) ∧ w' = w := by
  have hr := run_convRow w a n c f hx
  have hr2 := run_convRow w a' n c' g hy
  have E := equal_rows hx.bd hy.bd
  clear hx hy
  generalize bytesArr f n = s at hr E
  generalize bytesArr g n = t at hr2 E
  rw [← E]
  clear E
  go_enter Try.func49, Try.ntmps49
  go_wp2
  go_ret
  exact ⟨rfl, rfl⟩

end Go.Proofs.Qxb6604526a
