import Derived.Test.Qxb6619498aWpl
namespace Go.Proofs.Qxb6619498a
open Go.RowKit

/-- A row of n words. -/
def wordsOf (n : Nat) (f : Nat → Nat) : Array Value := ((List.range n).map fun i => Value.int .u32 (f i : Int)).toArray
theorem wordsOf_size (n : Nat) (f : Nat → Nat) : (wordsOf n f).size = n := by simp [wordsOf]
theorem wordsOf_get {n i : Nat} (f : Nat → Nat) (h : i < n) : (wordsOf n f)[i]? = some (.int .u32 (f i : Int)) := by simp [wordsOf, h]
theorem wordsOf_congr {n : Nat} {f g : Nat → Nat} (h : ∀ i, i < n → f i = g i) : wordsOf n f = wordsOf n g := by
  unfold wordsOf
  congr 1
  refine List.map_congr_left fun i hi => ?_
  rw [h i (List.mem_range.1 hi)]
theorem wordsOf_set {n i : Nat} (f : Nat → Nat) (x : Nat) : (wordsOf n f).setIfInBounds i (.int .u32 (x : Int)) = wordsOf n (fun j => if j = i then x else f j) := by
  apply Array.ext
  · simp [wordsOf]
  · intro j h1 h2
    have hj : j < n := by simpa [wordsOf] using h2
    rw [Array.getElem_setIfInBounds]
    simp only [wordsOf, List.getElem_toArray, List.getElem_map, List.getElem_range]
    by_cases hji : i = j
    · subst hji; simp
    · have : ¬ j = i := fun e => hji e.symm
      simp [hji, this]
    · simpa [wordsOf] using hj

/-- The words of a slice, wherever it lies. -/
def WsAt (w : World) (b o n : Nat) (f : Nat → Nat) : Prop := ∀ j, j < n → w.cell? ⟨b, o + j, none⟩ = some (.int .u32 (f j : Int))
theorem WsAt.still {w w' : World} {b o n : Nat} {f : Nat → Nat} (h : WsAt w b o n f) (hs : Still w w') : WsAt w' b o n f := fun j hj => hs.cell (h j hj)
theorem WsAt.below {w w' : World} {b o n : Nat} {f : Nat → Nat} (h : WsAt w b o n f) (hs : Below w.heap.size w w') : WsAt w' b o n f := fun j hj => cell_below (h j hj) hs
theorem Blk.words {w : World} {b m o n : Nat} {f g : Nat → Nat} {t : TypeId} (h : Blk w b (wordsOf m f) t) (hm : o + n ≤ m) (hg : ∀ j, j < n → f (o + j) = g j) : WsAt w b o n g := by
  intro j hj
  rw [h.cell, wordsOf_get _ (by omega), hg j hj]

/-- The parts of a slice of pairs, wherever it lies. -/
def PsAt (w : World) (ao : Option Addr) (qs : List Pt) : Prop := ∀ j (h : j < qs.length), ∃ b off, ao = some ⟨b, off, none⟩ ∧ w.cell? ⟨b, off + j * 2, none⟩ = some (.int .i64 (qs[j].1 : Int)) ∧ w.cell? ⟨b, off + j * 2 + 1, none⟩ = some (.int .i64 (qs[j].2 : Int))
theorem PsAt.below {w w' : World} {ao : Option Addr} {qs : List Pt} (h : PsAt w ao qs) (hb : Below w.heap.size w w') : PsAt w' ao qs := by
  intro j hj
  obtain ⟨b, off, h1, h2, h3⟩ := h j hj
  exact ⟨b, off, h1, cell_below h2 hb, cell_below h3 hb⟩
theorem PsAt.nil {w : World} {qs : List Pt} (h : PsAt w none qs) : qs = [] := by
  cases qs with
  | nil => rfl
  | cons a l => obtain ⟨b, off, h1, _⟩ := h 0 (by simp); cases h1

/-- The parts in a block of the call's own. -/
def PartsB (w : World) (ao : Option Addr) (qs : List Pt) : Prop :=
  (ao = none ∧ qs = []) ∨ ∃ b C, ao = some ⟨b, 0, none⟩ ∧ Blk w b C 79 ∧ ∀ j (h : j < qs.length), C[j * 2]? = some (.int .i64 (qs[j].1 : Int)) ∧ C[j * 2 + 1]? = some (.int .i64 (qs[j].2 : Int))
theorem PartsB.imp {w w' : World} {ao : Option Addr} {qs : List Pt} (h : PartsB w ao qs) (hi : ∀ b C, Blk w b C 79 → Blk w' b C 79) : PartsB w' ao qs := by
  rcases h with h | ⟨b, C, h1, h2, h3⟩
  · exact .inl h
  · exact .inr ⟨b, C, h1, hi _ _ h2, h3⟩
theorem PartsB.at {w : World} {ao : Option Addr} {qs : List Pt} (h : PartsB w ao qs) : PsAt w ao qs := by
  intro j hj
  rcases h with ⟨_, rfl⟩ | ⟨b, C, h1, h2, h3⟩
  · simp at hj
  · obtain ⟨h4, h5⟩ := h3 j hj
    exact ⟨b, 0, h1, by rw [h2.cell, Nat.zero_add]; exact h4, by rw [h2.cell, Nat.zero_add]; exact h5⟩

theorem wrap_u32 (x : Nat) (h : x ≤ 4294967295) : IntKind.u32.wrap (x : Int) = (x : Int) := by
  simp [IntKind.wrap, IntKind.signed, IntKind.bits]; omega

theorem made_words (n : Nat) : madeCells #[Value.int .u32 0] n = wordsOf n (fun _ => 0) := by
  apply Array.toList_inj.1
  rw [toList_madeCells_one]
  simp only [wordsOf]
  rw [List.map_const' , List.length_range]
  rfl
theorem make41 (w : World) (n : Nat) (h : n ≤ 2000000) : (Instr.makeSlice 41 (.int .i64 (n : Int)) (.int .i64 (n : Int))).run Try.prog w = .ok (.slice (some ⟨w.heap.size, 0, none⟩) n n) (w.alloc (.cells (wordsOf n fun _ => 0) 54)) := by
  obtain ⟨i0, hi, hz0, hz1, hz2⟩ := info_parts (P := Try.prog) (e := 54) (z := .int .u32 0) (size := 1) (bytes := 4) (by kernel_rfl)
  have := run_make (P := Try.prog) w 41 54 i0 (.int .u32 0) Try.underlying41 hi hz0 .i64 .i64 n n (by omega) (by omega) (by rw [hz2]; omega) (by omega)
  rw [this, hz1, ← made_words]
  simp [Value.cells]
theorem make81 (w : World) (n : Nat) (h : n ≤ 2000000) : (Instr.makeSlice 81 (.int .i64 (n : Int)) (.int .i64 (n : Int))).run Try.prog w = .ok (.slice (some ⟨w.heap.size, 0, none⟩) n n) (w.alloc (.cells (wordsOf n fun _ => 0) 54)) := by
  obtain ⟨i0, hi, hz0, hz1, hz2⟩ := info_parts (P := Try.prog) (e := 54) (z := .int .u32 0) (size := 1) (bytes := 4) (by kernel_rfl)
  have := run_make (P := Try.prog) w 81 54 i0 (.int .u32 0) Try.underlying81 hi hz0 .i64 .i64 n n (by omega) (by omega) (by rw [hz2]; omega) (by omega)
  rw [this, hz1, ← made_words]
  simp [Value.cells]
theorem make45 (w : World) (n : Nat) (h : n ≤ 2000000) : ∃ C : Array Value, C.size = n * 2 ∧ (Instr.makeSlice 45 (.int .i64 (n : Int)) (.int .i64 (n : Int))).run Try.prog w = .ok (.slice (some ⟨w.heap.size, 0, none⟩) n n) (w.alloc (.cells C 79)) := by
  obtain ⟨i0, hi, hz0, hz1, hz2⟩ := info_parts (P := Try.prog) (e := 79) (z := .agg #[.int .i64 0, .int .i64 0]) (size := 2) (bytes := 16) (by kernel_rfl)
  have := run_make (P := Try.prog) w 45 79 i0 (.agg #[.int .i64 0, .int .i64 0]) Try.underlying45 hi hz0 .i64 .i64 n n (by omega) (by omega) (by rw [hz2]; omega) (by omega)
  refine ⟨madeCells (Value.cells (.agg #[.int .i64 0, .int .i64 0])) (n * 2), ?_, ?_⟩
  · rw [size_madeCells]
  · rw [this, hz1]; simp

/-- zzEqualWords of two slices that hold the same words. -/
def RetB (b : Bool) (w : World) (e : Ending) (w' : World) : Prop := e = .returned (.bool b) ∧ Still w w'

set_option maxHeartbeats 1000000 in
theorem eqWords (b1 o1 c1 b2 o2 c2 n : Nat) (f : Nat → Nat) (hn : n ≤ 2000000) (w : World) (h1 : WsAt w b1 o1 n f) (h2 : WsAt w b2 o2 n f) :
    Calls Try.prog 16 #[.slice (some ⟨b1, o1, none⟩) n c1, .slice (some ⟨b2, o2, none⟩) n c2] w fun e w' => RetB true w e w' := by
  have H1 : Hid (WsAt w b1 o1 n f) := h1
  have H2 : Hid (WsAt w b2 o2 n f) := h2
  clear h1 h2
  go_enter Try.func16, Try.ntmps16
  go_wp2
  go_loopw [5] (fun i wr => ∃ k : Nat, k ≤ n ∧ i = .int .i64 k ∧ Still w wr) (fun i _ => n - (intOf i).toNat)
  case atStart => exact ⟨0, Nat.zero_le _, rfl, Still.refl _⟩
  case round =>
    obtain ⟨k, hk, rfl, hst⟩ := hrel
    by_cases hlt : k < n
    · have hc1 := H1.out.still hst k hlt
      have hc2 := H2.out.still hst k hlt
      have hx1 : (k : Int) < (n : Int) := by omega
      go_wp2
      go_quiet (fail)
      go_wp2
      go_roundw
      case rel => exact ⟨k + 1, by omega, by go_num, hst.drewN _⟩
      case measure => simp [intOf]; omega
    · have hke : k = n := by omega
      subst hke
      go_wp2
      go_ret
      exact ⟨rfl, hst⟩
end Go.Proofs.Qxb6619498a
