import Derived.Test.Qxb6619498aWcall
import Derived.Laws.CopyOwn
namespace Go.Proofs.Qxb6619498a
open Go.RowKit

/-- A row of words as it came in. -/
structure RowD where
  ao : Option Addr
  cap : Nat
  ws : List Nat
def WO (w : World) (ao : Option Addr) (ws : List Nat) : Prop := ∀ j (h : j < ws.length), ∃ b off, ao = some ⟨b, off, none⟩ ∧ w.cell? ⟨b, off + j, none⟩ = some (.int .u32 (ws[j] : Int))
theorem WO.below {w w' : World} {ao : Option Addr} {ws : List Nat} (h : WO w ao ws) (hb : Below w.heap.size w w') : WO w' ao ws := by
  intro j hj
  obtain ⟨b, off, h1, h2⟩ := h j hj
  exact ⟨b, off, h1, cell_below h2 hb⟩
theorem WO.nil {w : World} {ws : List Nat} (h : WO w none ws) : ws = [] := by
  cases ws with
  | nil => rfl
  | cons a l => obtain ⟨b, off, h1, _⟩ := h 0 (by simp); cases h1
def RowsU (w : World) (ao : Option Addr) (rows : List RowD) : Prop := ∀ j (h : j < rows.length), ∃ b off, ao = some ⟨b, off, none⟩ ∧ w.cell? ⟨b, off + j, none⟩ = some (.slice rows[j].ao rows[j].ws.length rows[j].cap) ∧ WO w rows[j].ao rows[j].ws
theorem RowsU.below {w w' : World} {ao : Option Addr} {rows : List RowD} (h : RowsU w ao rows) (hb : Below w.heap.size w w') : RowsU w' ao rows := by
  intro j hj
  obtain ⟨b, off, h1, h2, h3⟩ := h j hj
  exact ⟨b, off, h1, cell_below h2 hb, h3.below hb⟩
theorem RowsU.nil {w : World} {rows : List RowD} (h : RowsU w none rows) : rows = [] := by
  cases rows with
  | nil => rfl
  | cons a l => obtain ⟨b, off, h1, _⟩ := h 0 (by simp); cases h1

/-- A list of words as a row of cells. -/
def wl (ws : List Nat) : Array Value := wordsOf ws.length fun j => ws.getD j 0
theorem wl_eq (ws : List Nat) : wl ws = (ws.map fun x : Nat => Value.int .u32 (x : Int)).toArray := by
  unfold wl wordsOf
  congr 1
  apply List.ext_getElem
  · simp
  · intro j h1 h2
    have hj : j < ws.length := by simpa using h2
    simp [hj]

/-- zzCloneWords. -/
def RetCl (ws : List Nat) (w : World) (e : Ending) (w' : World) : Prop :=
  ∃ ao, e = .returned (.slice ao ws.length ws.length) ∧ ((ao = none ∧ ws = []) ∨ (ao = some ⟨w.heap.size, 0, none⟩ ∧ Blk w' w.heap.size (wl ws) 54)) ∧ Below w.heap.size w w'

theorem size54 : (Try.prog.info? 54).map (·.size) = some 1 := by
  obtain ⟨i0, hi, hz0, hz1, hz2⟩ := info_parts (P := Try.prog) (e := 54) (z := .int .u32 0) (size := 1) (bytes := 4) (by kernel_rfl)
  rw [hi]; simp [hz1]

set_option maxHeartbeats 2000000 in
set_option maxRecDepth 100000 in
theorem cloneWords (ao : Option Addr) (cap : Nat) (ws : List Nat) (hl : ws.length ≤ 2000000) (w : World) (hs : WO w ao ws) :
    Calls Try.prog 19 #[.slice ao ws.length cap] w fun e w' => RetCl ws w e w' := by
  have hnil := nil41
  cases ao with
  | none =>
    obtain rfl := hs.nil
    go_enter Try.func19, Try.ntmps19
    go_wp2
    go_ret
    exact ⟨none, rfl, .inl ⟨rfl, rfl⟩, Below.refl _ _⟩
  | some a0 =>
    have HS : Hid (WO w (some a0) ws) := hs
    clear hs
    have hmk := make41 w ws.length hl
    go_enter Try.func19, Try.ntmps19
    go_wp2_with (refine wpList_copy_splice rfl _ _ 41 41 rfl 54 Try.underlying41 size54 _ _ ws.length ws.length ws.length cap rfl rfl w.heap.size 0 (wordsOf ws.length fun _ => 0).toList 54 (by exact Blk.new w _ 54) (ws.map fun x : Nat => Value.int .u32 (x : Int)) (by simp) ?_ (by simp [wordsOf_size]) ?_ w.heap.size w ((Below.refl _ _).alloc (Nat.le_refl _) _) (Nat.le_refl _) ?_)
    · intro hpos j x hv
      obtain ⟨hj, rfl⟩ := List.getElem?_eq_some_iff.1 hv
      obtain ⟨b, off, h1, h2⟩ := HS.out.below ((Below.refl _ _).alloc (Nat.le_refl _) _) j hj
      cases h1
      rw [show (⟨b, off, none⟩ : Addr).add j = ⟨b, off + j, none⟩ by unfold Addr.add; split <;> simp_all]
      rw [h2]
    · intro v hv
      simp at hv
      obtain ⟨x, _, rfl⟩ := hv
      rfl
    · intro w2 hb2 hbel
      have HB2 : Hid (Blk w2 w.heap.size (wl ws) 54) := by
        have := hb2.out
        unfold Hid Blk
        rw [this, wl_eq]
        simp [splice, wordsOf_size]
      clear hb2
      go_wp2
      go_ret
      exact ⟨_, rfl, .inr ⟨rfl, HB2.out⟩, hbel⟩
end Go.Proofs.Qxb6619498a
