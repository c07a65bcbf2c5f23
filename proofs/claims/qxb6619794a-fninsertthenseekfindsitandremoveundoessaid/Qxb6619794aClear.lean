import Derived.Test.Qxb6619794aKin1
namespace Go.Proofs.Qxb6619794a
open Go.RowKit

theorem set_splice {α : Type} (L : List α) (o : Nat) (v : α) (vs : List α) (h : o + (v :: vs).length ≤ L.length) : splice (L.set o v) (o + 1) vs = splice L o (v :: vs) := by
  unfold splice
  simp only [List.length_cons] at h ⊢
  have e1 : (L.set o v).take (o + 1) = L.take o ++ [v] := by
    rw [List.take_set, List.take_succ_eq_append_getElem (by omega), List.set_append_right _ _ (by rw [List.length_take]; omega)]
    have : o - (L.take o).length = 0 := by rw [List.length_take]; omega
    rw [this]; rfl
  have e2 : (L.set o v).drop (o + 1 + vs.length) = L.drop (o + 1 + vs.length) := by
    rw [List.drop_set_of_lt (by omega)]
  rw [e1, e2, Nat.add_right_comm o 1, Nat.add_assoc]
  simp

theorem setCells_blk (b : Nat) (t : TypeId) : ∀ (vs : List Value) (o : Nat) (w : World) (L : List Value), Blk w b L.toArray t → o + vs.length ≤ L.length →
    Blk (w.setCells b o vs) b (splice L o vs).toArray t ∧ w.grownBy (w.setCells b o vs) (some b)
  | [], o, w, L, h, _ => ⟨by simpa [World.setCells, splice] using h, World.grownBy.refl _ _⟩
  | v :: vs, o, w, L, h, hl => by
    have h1 := h.set o v
    have h1' : Blk (w.setCell ⟨b, o, none⟩ v) b (L.set o v).toArray t := by simpa using h1
    obtain ⟨a1, a2⟩ := setCells_blk b t vs (o + 1) (w.setCell ⟨b, o, none⟩ v) (L.set o v) h1' (by simp at hl ⊢; omega)
    rw [set_splice _ _ _ _ hl] at a1
    refine ⟨a1, ?_⟩
    have e : (w.setCell ⟨b, o, none⟩ v).heap.size = w.heap.size := by simp [World.setCell]
    have hs := a2.size
    rw [e] at hs
    refine ⟨a2.os, a2.tape, a2.output, hs, fun k hk hne => ?_⟩
    rw [show w.setCells b o (v :: vs) = (w.setCell ⟨b, o, none⟩ v).setCells b (o + 1) vs from rfl, a2.block k (by simpa [World.setCell] using hk) hne]
    exact Below.heap_setCell _ _ _ _ (fun e => hne (by rw [e]))

theorem zero9 (w : World) : (zeroValue 9).run Try.prog w = .ok (.string ByteArray.empty) w := by
  obtain ⟨i0, hi, hz0, hz1, hz2⟩ := info_parts (P := Try.prog) (e := 9) (z := .string ByteArray.empty) (size := 1) (bytes := 16) (by kernel_rfl)
  simp [zeroValue, typeInfo, hi, hz0]
theorem zero57 (w : World) : (zeroValue 57).run Try.prog w = .ok (.pointer none) w := by
  obtain ⟨i0, hi, hz0, hz1, hz2⟩ := info_parts (P := Try.prog) (e := 57) (z := .pointer none) (size := 1) (bytes := 8) (by kernel_rfl)
  simp [zeroValue, typeInfo, hi, hz0]

/-- 'clear(s)' on a part of a row. -/
theorem wpList_clear_row {w : World} {ops : Array Oper} {rest : List Oper} {o : Oper} {a : Act} {Q : Exit → Act → World → Prop} (hgd : o.guard = none) (s : Operand) (T E : TypeId) (z : Value)
    (ho : o.op = .call { callee := .builtin .clear, args := #[s], argTypes := #[T] }) (hu : Try.prog.underlying T = some (.slice E)) (hv : ∀ w, (zeroValue E).run Try.prog w = .ok z w) (hz : z.cells = #[z]) (h1 : z.oneCell' = true)
    (r off n c : Nat) (hs : a.eval s = .slice (some ⟨r, off, none⟩) n c) (hn : 0 < n) (L : List Value) (hb : Blk w r L.toArray E) (hfit : off + n ≤ L.length)
    (h : ∀ w', Blk w' r (splice L off (List.replicate n z)).toArray E → w.grownBy w' (some r) → wpList Try.prog ops Q rest (a.put o.dst (.tuple #[])) w') : wpList Try.prog ops Q (o :: rest) a w := by
  refine wpList_plain hgd fun K hK => ?_
  have hrun := Lib.run_clear_slice (P := Try.prog) w T E o.type z hu hv hz h1 r off n c hn (fun j hj => by rw [hb.cell]; simp; omega) (fun j _ => hb.free _)
  obtain ⟨a1, a2⟩ := setCells_blk r E (List.replicate n z) off w L hb (by simpa using hfit)
  unfold Oper.wp
  simp [execOp, ho, resolve, invoke, builtin, hs, hrun, Result.andThen]
  exact hK _ _ (h _ a1 a2)
end Go.Proofs.Qxb6619794a
