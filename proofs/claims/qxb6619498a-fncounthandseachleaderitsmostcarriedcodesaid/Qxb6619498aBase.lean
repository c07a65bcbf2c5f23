import Derived.Test.Qxb6619498aRows
import Derived.WalkKit
import Derived.WalkSpells
import Derived.WalkLawsBesides
import Derived.Deep.QuietTactic
import Derived.Deep.RegionLaw
import Derived.Deep.AppendLies
import Derived.BigQuiet
import Derived.BigRegion
import Derived.Lib.SliceRun
namespace Go.Proofs.Qxb6619498a
open Go.RowKit

theorem drewN_drewN (w : World) (a b : Nat) : (w.drewN a).drewN b = w.drewN (a + b) := by
  simp [World.drewN, Nat.add_assoc]

/-- Nothing but draws. -/
def Still (w w' : World) : Prop := ∃ n, w' = w.drewN n
theorem Still.refl (w : World) : Still w w := ⟨0, rfl⟩
theorem Still.drewN {w w' : World} (h : Still w w') (n : Nat) : Still w (w'.drewN n) := by
  obtain ⟨m, rfl⟩ := h; exact ⟨_, drewN_drewN _ _ _⟩
theorem Still.drew {w w' : World} (h : Still w w') : Still w w'.drew := by
  obtain ⟨m, rfl⟩ := h; exact ⟨m + 1, rfl⟩
theorem Still.trans {a b c : World} (h : Still a b) (k : Still b c) : Still a c := by
  obtain ⟨m, rfl⟩ := k; exact h.drewN m
theorem Still.below {w w' : World} (h : Still w w') (B : Nat) : Below B w w' := by
  obtain ⟨n, rfl⟩ := h; exact ⟨rfl, rfl, rfl, Nat.le_refl _, fun _ _ => rfl⟩
theorem Still.heap {w w' : World} (h : Still w w') : w'.heap = w.heap := by
  obtain ⟨n, rfl⟩ := h; rfl
theorem Still.cell {w w' : World} (h : Still w w') {a : Addr} {v : Value} (hc : w.cell? a = some v) : w'.cell? a = some v := by
  obtain ⟨n, rfl⟩ := h; exact hc

theorem below_drewN {B : Nat} {a w : World} (h : Below B a w) (n : Nat) : Below B a (w.drewN n) := ⟨h.os, h.tape, h.output, h.size, h.block⟩
theorem cell_lt {w : World} {a : Addr} {v : Value} (h : w.cell? a = some v) : a.block < w.heap.size := by
  unfold World.cell? at h
  rcases Nat.lt_or_ge a.block w.heap.size with g | g
  · exact g
  · simp [Array.getElem?_eq_none g] at h
theorem cell_below {w w' : World} {a : Addr} {v : Value} (h : w.cell? a = some v) (hb : Below w.heap.size w w') : w'.cell? a = some v := by
  rw [hb.cell (cell_lt h)]; exact h
theorem take_snoc {α : Type} (l : List α) (k : Nat) (h : k < l.length) : l.take (k + 1) = l.take k ++ [l[k]] := List.take_succ_eq_append_getElem h
theorem wrap_nat (n : Nat) (h : n ≤ 9223372036854775807) : IntKind.i64.wrap (n : Int) = (n : Int) := by
  simp [IntKind.wrap, IntKind.signed, IntKind.bits]; omega

/-- Block b is a whole row of cells C of element type t, none of it frozen. -/
def Blk (w : World) (b : Nat) (C : Array Value) (t : TypeId) : Prop := w.heap[b]? = some (.cells C t (0, 0))

theorem Blk.cell {w : World} {b : Nat} {C : Array Value} {t : TypeId} (h : Blk w b C t) (o : Nat) : w.cell? ⟨b, o, none⟩ = C[o]? := by
  unfold Blk at h; simp [World.cell?, h]
theorem Blk.free {w : World} {b : Nat} {C : Array Value} {t : TypeId} (h : Blk w b C t) (o : Nat) : w.frozen? ⟨b, o, none⟩ = false := by
  unfold Blk at h; simp [World.frozen?, h]
theorem Blk.lt {w : World} {b : Nat} {C : Array Value} {t : TypeId} (h : Blk w b C t) : b < w.heap.size := by
  unfold Blk at h
  rcases Nat.lt_or_ge b w.heap.size with g | g
  · exact g
  · rw [Array.getElem?_eq_none g] at h; cases h
theorem Blk.set {w : World} {b : Nat} {C : Array Value} {t : TypeId} (h : Blk w b C t) (o : Nat) (v : Value) : Blk (w.setCell ⟨b, o, none⟩ v) b (C.setIfInBounds o v) t := by
  unfold Blk at *
  simp [World.setCell, Array.getElem?_modify, h]
theorem Blk.set_ne {w : World} {b b' : Nat} {C : Array Value} {t : TypeId} (h : Blk w b C t) (hne : b ≠ b') (o : Nat) (v : Value) : Blk (w.setCell ⟨b', o, none⟩ v) b C t := by
  unfold Blk at *
  rw [Below.heap_setCell _ _ _ _ hne]; exact h
theorem Blk.alloc {w : World} {b : Nat} {C : Array Value} {t : TypeId} (h : Blk w b C t) (o : Obj) : Blk (w.alloc o) b C t := by
  have hl := h.lt
  unfold Blk at *
  rw [Below.heap_alloc _ _ _ hl]; exact h
theorem Blk.new (w : World) (C : Array Value) (t : TypeId) : Blk (w.alloc (.cells C t)) w.heap.size C t := heap_alloc_new w _
theorem Blk.below {w w' : World} {B b : Nat} {C : Array Value} {t : TypeId} (h : Blk w b C t) (hb : Below B w w') (hB : b < B) : Blk w' b C t := by
  unfold Blk at *; rw [hb.block b hB]; exact h
theorem Blk.still {w w' : World} {b : Nat} {C : Array Value} {t : TypeId} (h : Blk w b C t) (hb : Still w w') : Blk w' b C t := by
  unfold Blk at *; rw [hb.heap]; exact h
theorem Blk.type_ne {w : World} {b b' : Nat} {C C' : Array Value} {t t' : TypeId} (h : Blk w b C t) (h' : Blk w b' C' t') (ht : t ≠ t') : b ≠ b' := by
  intro e; subst e
  unfold Blk at *
  rw [h] at h'; simp at h'; exact ht h'.2
theorem Blk.inj {w : World} {b : Nat} {C C' : Array Value} {t t' : TypeId} (h : Blk w b C t) (h' : Blk w b C' t') : C = C' := by
  unfold Blk at *
  rw [h] at h'; simp at h'; exact h'.1


end Go.Proofs.Qxb6619498a
