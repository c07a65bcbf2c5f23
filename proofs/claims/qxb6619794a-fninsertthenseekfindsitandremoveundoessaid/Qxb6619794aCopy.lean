import Derived.Test.Qxb6619794aSize
import Derived.Lib.SliceRun
namespace Go.Proofs.Qxb6619794a
open Go.RowKit

/-- Block b is a whole row of cells C of element type t, none of it frozen. -/
def Blk (w : World) (b : Nat) (C : Array Value) (t : TypeId) : Prop := w.heap[b]? = some (.cells C t (0, 0))

theorem Blk.cell {w : World} {b : Nat} {C : Array Value} {t : TypeId} (h : Blk w b C t) (o : Nat) : w.cell? ⟨b, o, none⟩ = C[o]? := by
  unfold Blk at h; simp [World.cell?, h]
theorem Blk.free {w : World} {b : Nat} {C : Array Value} {t : TypeId} (h : Blk w b C t) (o : Nat) : w.frozen? ⟨b, o, none⟩ = false := by
  unfold Blk at h; simp [World.frozen?, h]
theorem Blk.lt {w : World} {b : Nat} {C : Array Value} {t : TypeId} (h : Blk w b C t) : b < w.heap.size := by
  unfold Blk at h
  rcases Nat.lt_or_ge b w.heap.size with g | g
  · exact g
  · rw [Array.getElem?_eq_none g] at h; cases h
theorem Blk.set {w : World} {b : Nat} {C : Array Value} {t : TypeId} (h : Blk w b C t) (o : Nat) (v : Value) : Blk (w.setCell ⟨b, o, none⟩ v) b (C.setIfInBounds o v) t := by
  unfold Blk at *
  simp [World.setCell, Array.getElem?_modify, h]
theorem Blk.set_ne {w : World} {b b' : Nat} {C : Array Value} {t : TypeId} (h : Blk w b C t) (hne : b ≠ b') (o : Nat) (v : Value) : Blk (w.setCell ⟨b', o, none⟩ v) b C t := by
  unfold Blk at *
  rw [Below.heap_setCell _ _ _ _ hne]; exact h
theorem Blk.alloc {w : World} {b : Nat} {C : Array Value} {t : TypeId} (h : Blk w b C t) (o : Obj) : Blk (w.alloc o) b C t := by
  have hl := h.lt
  unfold Blk at *
  rw [Below.heap_alloc _ _ _ hl]; exact h
theorem Blk.new (w : World) (C : Array Value) (t : TypeId) : Blk (w.alloc (.cells C t)) w.heap.size C t := heap_alloc_new w _
theorem Blk.below {w w' : World} {B b : Nat} {C : Array Value} {t : TypeId} (h : Blk w b C t) (hb : Below B w w') (hB : b < B) : Blk w' b C t := by
  unfold Blk at *; rw [hb.block b hB]; exact h
theorem Blk.still {w w' : World} {b : Nat} {C : Array Value} {t : TypeId} (h : Blk w b C t) (hb : Still w w') : Blk w' b C t := by
  unfold Blk at *; rw [hb.heap]; exact h
theorem Blk.type_ne {w : World} {b b' : Nat} {C C' : Array Value} {t t' : TypeId} (h : Blk w b C t) (h' : Blk w b' C' t') (ht : t ≠ t') : b ≠ b' := by
  intro e; subst e
  unfold Blk at *
  rw [h] at h'; simp at h'; exact ht h'.2
theorem Blk.inj {w : World} {b : Nat} {C C' : Array Value} {t t' : TypeId} (h : Blk w b C t) (h' : Blk w b C' t') : C = C' := by
  unfold Blk at *
  rw [h] at h'; simp at h'; exact h'.1

/-- A row that is filled from its head: the first k elements stand, the rest is z. -/
def fillRow {α : Type} (f : α → Value) (z : α) (xs : List α) (k : Nat) : Array Value := ((xs.take k ++ List.replicate (xs.length - k) z).map f).toArray

theorem fill_size {α : Type} (f : α → Value) (z : α) (xs : List α) (k : Nat) (h : k ≤ xs.length) : (fillRow f z xs k).size = xs.length := by
  simp [fillRow]; omega

theorem fill_step {α : Type} (f : α → Value) (z : α) (xs : List α) (k : Nat) (h : k < xs.length) : (fillRow f z xs k).setIfInBounds k (f xs[k]) = fillRow f z xs (k + 1) := by
  unfold fillRow
  rw [take_snoc _ _ h]
  obtain ⟨r, hr⟩ : ∃ r, xs.length - k = r + 1 := ⟨xs.length - k - 1, by omega⟩
  have hr2 : xs.length - (k + 1) = r := by omega
  rw [hr, hr2, List.replicate_succ]
  have hl : (xs.take k).length = k := by rw [List.length_take]; omega
  apply Array.ext'
  rw [Array.toList_setIfInBounds]
  simp only [List.map_append, List.map_cons]
  rw [List.set_append_right _ _ (by rw [List.length_map, hl]; exact Nat.le_refl _)]
  rw [List.length_map, hl, Nat.sub_self, List.set_cons_zero]
  simp

theorem fill_zero {α : Type} (f : α → Value) (z : α) (xs : List α) : fillRow f z xs 0 = madeCells #[f z] xs.length := by
  apply Array.ext'
  simp [fillRow, madeCells]
  apply List.ext_getElem
  · simp
  · intro i h1 h2; simp [Nat.mod_one]

theorem fill_full {α : Type} (f : α → Value) (z : α) (xs : List α) : fillRow f z xs xs.length = (xs.map f).toArray := by
  simp [fillRow]

theorem fill_get {α : Type} (f : α → Value) (z : α) (xs : List α) (k : Nat) (h : k < xs.length) : (fillRow f z xs k)[k]? = some (f z) := by
  unfold fillRow
  have hl : (xs.take k).length = k := by rw [List.length_take]; omega
  rw [List.getElem?_toArray, List.map_append, List.getElem?_append_right (by rw [List.length_map, hl]; exact Nat.le_refl _), List.length_map, hl, Nat.sub_self]
  obtain ⟨r, hr⟩ : ∃ r, xs.length - k = r + 1 := ⟨xs.length - k - 1, by omega⟩
  rw [hr, List.replicate_succ]; rfl

/-- The call returns a slice that shows the numbers es; nothing old has turned. -/
def RetNums (es : List Int) (w : World) (e : Ending) (w' : World) : Prop := ∃ ao cap, e = .returned (.slice ao es.length cap) ∧ NumsAt w' ao es ∧ Below w.heap.size w w'

theorem nums_of_blk {w : World} {g : Nat} {es : List Int} (h : Blk w g (es.map (Value.int .u64)).toArray 24) : NumsAt w (some ⟨g, 0, none⟩) es := by
  intro j hj
  exact ⟨g, 0, rfl, by rw [h.cell]; simp [hj]⟩

theorem make23 (w : World) (n : Nat) (h : n ≤ 2000000) : (Instr.makeSlice 23 (.int .i64 (n : Int)) (.int .i64 (n : Int))).run Try.prog w = .ok (.slice (some ⟨w.heap.size, 0, none⟩) n n) (w.alloc (.cells (madeCells #[Value.int .u64 0] n) 24)) := by
  obtain ⟨i0, hi, hz0, hz1, hz2⟩ := info_parts (P := Try.prog) (e := 24) (z := .int .u64 0) (size := 1) (bytes := 8) (by kernel_rfl)
  have := run_make (P := Try.prog) w 23 24 i0 (.int .u64 0) Try.underlying23 hi hz0 .i64 .i64 n n (by omega) (by omega) (by rw [hz2]; omega) (by omega)
  rw [this, hz1]; simp [Value.cells]

theorem nil23 (w : World) (a : Option Addr) (n c : Nat) : (binOp .eql 23 (.slice a n c) (.slice none 0 0)).run Try.prog w = .ok (.bool a.isNone) w := Lib.run_eql_slice_nil w 23 24 a n c 0 0 Try.underlying23
theorem nil22 (w : World) (a : Option Addr) (n c : Nat) : (binOp .eql 22 (.slice a n c) (.slice none 0 0)).run Try.prog w = .ok (.bool a.isNone) w := Lib.run_eql_slice_nil w 22 30 a n c 0 0 Try.underlying22
theorem nil30 (w : World) (a : Option Addr) (n c : Nat) : (binOp .eql 30 (.slice a n c) (.slice none 0 0)).run Try.prog w = .ok (.bool a.isNone) w := Lib.run_eql_slice_nil w 30 9 a n c 0 0 Try.underlying30

set_option maxHeartbeats 1000000 in
theorem copyU64_any (eo : Option Addr) (ec : Nat) (es : List Int) (hl : es.length ≤ 2000000) (w : World) (hs : NumsAt w eo es) :
    Calls Try.prog 12 #[.slice eo es.length ec] w fun e w' => RetNums es w e w' := by
  have HS : Hid (NumsAt w eo es) := hs
  clear hs
  cases eo with
  | none =>
    have h0 : es = [] := by
      cases es with
      | nil => rfl
      | cons a l => obtain ⟨_, _, h, _⟩ := HS.out 0 (by simp); cases h
    subst h0
    have hn := nil23
    go_enter Try.func12, Try.ntmps12
    go_wp2
    go_ret
    exact ⟨none, 0, rfl, fun j hj => by simp at hj, Below.refl _ _⟩
  | some a =>
    have hmk := make23
    have hn := nil23
    go_enter Try.func12, Try.ntmps12
    go_wp2
    go_loopw [4] (fun i wr => ∃ k : Nat, k ≤ es.length ∧ i = .int .i64 k ∧ Blk wr w.heap.size (fillRow (Value.int .u64) 0 es k) 24 ∧ Below w.heap.size w wr) (fun i _ => es.length - (intOf i).toNat)
    case atStart => exact ⟨0, Nat.zero_le _, rfl, by rw [fill_zero]; exact Blk.new _ _ _, (Below.refl _ _).alloc (Nat.le_refl _) _⟩
    case round =>
      obtain ⟨k, hk, rfl, hB, hbel⟩ := hrel
      have HB : Hid (Blk wr w.heap.size (fillRow (Value.int .u64) 0 es k) 24) := hB
      by_cases hlt : k < es.length
      · obtain ⟨b, off, hao, hc⟩ := HS.out.below hbel k hlt
        cases hao
        have hc2 : wr.cell? ⟨w.heap.size, k, none⟩ = some (.int .u64 0) := by rw [hB.cell, fill_get _ _ _ _ hlt]
        have hf := hB.free k
        clear hB
        go_wp2
        go_roundw
        case rel => exact ⟨k + 1, by omega, by go_num, by rw [← fill_step _ _ _ _ hlt]; exact HB.out.set _ _, hbel.setCell (Nat.le_refl _) _⟩
        case measure => simp [intOf]; omega
      · go_wp2
        go_ret
        have hke : k = es.length := by omega
        subst hke
        exact ⟨some ⟨w.heap.size, 0, none⟩, es.length, rfl, nums_of_blk (by rw [← fill_full _ 0]; exact HB.out), hbel⟩
end Go.Proofs.Qxb6619794a
