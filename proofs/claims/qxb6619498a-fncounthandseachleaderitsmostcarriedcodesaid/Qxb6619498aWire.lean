import Derived.Test.Qxb6619498aWfn
import Derived.Deep.Cut
import Derived.Deep.CutRange
namespace Go.Proofs.Qxb6619498a
open Go.RowKit

theorem setCells_words (b m : Nat) (t : TypeId) : ∀ (n o : Nat) (w : World) (f : Nat → Nat), Blk w b (wordsOf m f) t →
    Blk (w.setCells b o (List.replicate n (.int .u32 0))) b (wordsOf m fun j => if o ≤ j ∧ j < o + n then 0 else f j) t ∧ w.grownBy (w.setCells b o (List.replicate n (.int .u32 0))) (some b)
  | 0, o, w, f, h => ⟨by
      rw [wordsOf_congr (g := f) (fun i _ => by rw [if_neg (by omega)])]
      simpa [World.setCells] using h, World.grownBy.refl _ _⟩
  | n + 1, o, w, f, h => by
    have h1 := h.set o (.int .u32 ((0 : Nat) : Int))
    rw [wordsOf_set] at h1
    obtain ⟨a1, a2⟩ := setCells_words b m t n (o + 1) (w.setCell ⟨b, o, none⟩ (.int .u32 0)) _ h1
    have e0 : w.setCells b o (List.replicate (n + 1) (.int .u32 0)) = (w.setCell ⟨b, o, none⟩ (.int .u32 0)).setCells b (o + 1) (List.replicate n (.int .u32 0)) := rfl
    rw [e0]
    refine ⟨?_, ?_⟩
    · rw [wordsOf_congr (g := fun j => if o + 1 ≤ j ∧ j < o + 1 + n then 0 else if j = o then 0 else f j)]
      · exact a1
      · intro i hi
        by_cases h1 : i = o
        · subst h1; rw [if_pos (by omega), if_neg (by omega), if_pos rfl]
        · by_cases h2 : o + 1 ≤ i ∧ i < o + 1 + n
          · rw [if_pos (by omega), if_pos h2]
          · rw [if_neg (by omega), if_neg h2, if_neg h1]
    · have e : (w.setCell ⟨b, o, none⟩ (.int .u32 0)).heap.size = w.heap.size := by simp [World.setCell]
      have hs := a2.size
      rw [e] at hs
      refine ⟨a2.os, a2.tape, a2.output, hs, fun k hk hne => ?_⟩
      rw [a2.block k (by simpa [World.setCell] using hk) hne]
      exact Below.heap_setCell _ _ _ _ (fun e => hne (by rw [e]))

theorem zero54 (w : World) : (zeroValue 54).run Try.prog w = .ok (.int .u32 0) w := by
  obtain ⟨i0, hi, hz0, hz1, hz2⟩ := info_parts (P := Try.prog) (e := 54) (z := .int .u32 0) (size := 1) (bytes := 4) (by kernel_rfl)
  simp [zeroValue, typeInfo, hi, hz0]

/-- 'clear(m)' on a part of a row of words. -/
theorem wpList_clear_words {w : World} {ops : Array Oper} {rest : List Oper} {o : Oper} {a : Act} {Q : Exit → Act → World → Prop} (hgd : o.guard = none) (s : Operand)
    (ho : o.op = .call { callee := .builtin .clear, args := #[s], argTypes := #[81] })
    (r off n c : Nat) (hs : a.eval s = .slice (some ⟨r, off, none⟩) n c) (hn : 0 < n) (m : Nat) (f : Nat → Nat) (hb : Blk w r (wordsOf m f) 54) (hfit : off + n ≤ m)
    (h : ∀ w', Blk w' r (wordsOf m fun j => if off ≤ j ∧ j < off + n then 0 else f j) 54 → w.grownBy w' (some r) → wpList Try.prog ops Q rest (a.put o.dst (.tuple #[])) w') : wpList Try.prog ops Q (o :: rest) a w := by
  refine wpList_plain hgd fun K hK => ?_
  have hrun := Lib.run_clear_slice (P := Try.prog) w 81 54 o.type (.int .u32 0) Try.underlying81 zero54 rfl rfl r off n c hn (fun j hj => by rw [hb.cell, wordsOf_get _ (by omega)]; simp) (fun j _ => hb.free _)
  obtain ⟨a1, a2⟩ := setCells_words r m 54 n off w f hb
  unfold Oper.wp
  simp [execOp, ho, resolve, invoke, builtin, hs, hrun, Result.andThen]
  exact hK _ _ (h _ a1 a2)

theorem own_ne {w : World} {B e size : Nat} {v : Value} {n : Nat} {xs : List Value} {b : Nat} {C : Array Value} {t : TypeId} (h : w.ownsRow B e size v n xs) (hb : Blk w b C t) (ht : e ≠ t) : v.ownBlock ≠ some b := by
  rcases h.2 with ⟨rfl, _⟩ | ⟨g, cap, cur, rfl, _, hg, _⟩
  · simp [Value.ownBlock]
  · intro he
    simp [Value.ownBlock] at he
    subst he
    unfold Blk at hb
    rw [hg] at hb; simp at hb; exact ht hb.2
theorem own_set_ne {w : World} {B e size : Nat} {v : Value} {n : Nat} {xs : List Value} {b : Nat} (h : w.ownsRow B e size v n xs) (hne : v.ownBlock ≠ some b) (o : Nat) (u : Value) : (w.setCell ⟨b, o, none⟩ u).ownsRow B e size v n xs := by
  obtain ⟨h1, h⟩ := h
  refine ⟨h1, ?_⟩
  rcases h with h | ⟨g, cap, cur, rfl, hb, hg, r⟩
  · exact .inl h
  · refine .inr ⟨g, cap, cur, rfl, hb, ?_, r⟩
    rw [Below.heap_setCell _ _ _ _ (by intro e; have e' : g = b := e; apply hne; rw [e']; rfl)]; exact hg
theorem Blk.grown {w w' : World} {b : Nat} {C : Array Value} {t : TypeId} {row : Option Nat} (h : Blk w b C t) (hg : w.grownBy w' row) (hne : row ≠ some b) : Blk w' b C t := by
  have hl := h.lt
  unfold Blk at *
  rw [hg.block b hl (Ne.symm hne)]; exact h
theorem frozen_alloc {w : World} {a : Addr} (h : w.frozen? a = false) (hl : a.block < w.heap.size) (o : Obj) : (w.alloc o).frozen? a = false := by
  rw [← h]
  exact World.frozen?_of_block (w := w) (Below.heap_alloc _ _ _ hl)

/-- A chunk as the wire's row holds it. -/
def cv (n : Nat) (b : Nat) : Value := .slice (some ⟨b, 0, none⟩) (64 * n) (64 * n)

/-- The wire in memory: its five fields, the row of its chunks, the chunks' words (F, chunk behind chunk). -/
structure Wire (L : Nat) (w : World) (P n : Nat) (rd : Int) (v : Value) (cs : List Nat) (ch us : Nat) (F : Nat → Nat) : Prop where
  wire : Blk w P #[.int .i64 (n : Int), .int .i64 rd, v, .int .i64 (ch : Int), .int .i64 (us : Int)] 83
  own : w.ownsRow L 81 1 v cs.length (cs.map (cv n))
  chk : ∀ c (h : c < cs.length), Blk w cs[c] (wordsOf (64 * n) fun j => F (c * (64 * n) + j)) 54
  nod : cs.Nodup
  low : ∀ b ∈ cs, L ≤ b
  lowP : L ≤ P
  zero : ∀ g, cs.length * (64 * n) ≤ g → F g = 0

/-- What a call of message leaves alone. -/
def Pass (cs : List Nat) (w w' : World) : Prop := ∀ b C t, t ≠ 81 → t ≠ 83 → b ∉ cs → Blk w b C t → Blk w' b C t
theorem Pass.refl (cs : List Nat) (w : World) : Pass cs w w := fun _ _ _ _ _ _ h => h
theorem Pass.trans {cs : List Nat} {a b c : World} (h : Pass cs a b) (k : Pass cs b c) : Pass cs a c := fun x C t h1 h2 h3 h4 => k x C t h1 h2 h3 (h x C t h1 h2 h3 h4)

section
variable {L : Nat} {w : World} {P n : Nat} {rd : Int} {v : Value} {cs : List Nat} {ch us : Nat} {F : Nat → Nat}

theorem Wire.imp {w' : World} (h : Wire L w P n rd v cs ch us F) (h83 : Blk w P #[.int .i64 (n : Int), .int .i64 rd, v, .int .i64 (ch : Int), .int .i64 (us : Int)] 83 → Blk w' P #[.int .i64 (n : Int), .int .i64 rd, v, .int .i64 (ch : Int), .int .i64 (us : Int)] 83)
    (h81 : w.ownsRow L 81 1 v cs.length (cs.map (cv n)) → w'.ownsRow L 81 1 v cs.length (cs.map (cv n))) (h54 : ∀ b ∈ cs, ∀ C, Blk w b C 54 → Blk w' b C 54) : Wire L w' P n rd v cs ch us F :=
  ⟨h83 h.wire, h81 h.own, fun c hc => h54 _ (List.getElem_mem hc) _ (h.chk c hc), h.nod, h.low, h.lowP, h.zero⟩
theorem Wire.below {w' : World} (h : Wire L w P n rd v cs ch us F) (hb : Below w.heap.size w w') : Wire L w' P n rd v cs ch us F := by
  refine h.imp (fun g => g.below hb g.lt) (fun g => ?_) (fun b _ C g => g.below hb g.lt)
  refine ⟨g.1, ?_⟩
  rcases g.2 with hn | ⟨q, cap, cur, rfl, hq, hg, r⟩
  · exact .inl hn
  · have hq2 : Blk w q cur 81 := hg
    exact .inr ⟨q, cap, cur, rfl, hq, hq2.below hb hq2.lt, r⟩
theorem Wire.still {w' : World} (h : Wire L w P n rd v cs ch us F) (hb : Still w w') : Wire L w' P n rd v cs ch us F := h.below (hb.below _)

theorem Wire.setP (h : Wire L w P n rd v cs ch us F) (o : Nat) (u : Value) {rd' : Int} {ch' us' : Nat} (hC : (#[.int .i64 (n : Int), .int .i64 rd, v, .int .i64 (ch : Int), .int .i64 (us : Int)] : Array Value).setIfInBounds o u = #[.int .i64 (n : Int), .int .i64 rd', v, .int .i64 (ch' : Int), .int .i64 (us' : Int)]) :
    Wire L (w.setCell ⟨P, o, none⟩ u) P n rd' v cs ch' us' F := by
  refine ⟨?_, own_set_ne h.own (own_ne h.own h.wire (by decide)) _ _, fun c hc => (h.chk c hc).set_ne ((h.chk c hc).type_ne h.wire (by decide)) _ _, h.nod, h.low, h.lowP, h.zero⟩
  have := h.wire.set o u
  rw [hC] at this; exact this
theorem Wire.passP {cs' : List Nat} (h : Wire L w P n rd v cs ch us F) (o : Nat) (u : Value) : Pass cs' w (w.setCell ⟨P, o, none⟩ u) := fun _ _ _ _ h83 _ hb => hb.set_ne (hb.type_ne h.wire h83) _ _
theorem Wire.belowP {w0 : World} (h : Wire L w P n rd v cs ch us F) (hb : Below L w0 w) (o : Nat) (u : Value) : Below L w0 (w.setCell ⟨P, o, none⟩ u) := hb.setCell (p := ⟨P, o, none⟩) h.lowP _
theorem Pass.drew {w w' : World} (h : Pass cs w w') : Pass cs w w'.drew := fun b C t h1 h2 h3 h4 => h b C t h1 h2 h3 h4
theorem Wire.drew (h : Wire L w P n rd v cs ch us F) : Wire L w.drew P n rd v cs ch us F := h.still ⟨1, rfl⟩

/-- The row of a wire that has a chunk. -/
theorem Wire.arr (h : Wire L w P n rd v cs ch us F) (hl : 0 < cs.length) : ∃ g cap, v = .slice (some ⟨g, 0, none⟩) cs.length cap ∧ L ≤ g ∧ ∀ c (hc : c < cs.length), w.cell? ⟨g, c, none⟩ = some (cv n cs[c]) := by
  rcases h.own.2 with ⟨_, h0⟩ | ⟨g, cap, cur, rfl, hL, hg, _⟩
  · omega
  · refine ⟨g, cap, rfl, hL, fun c hc => ?_⟩
    rw [h.own.cellAt c (by omega)]
    simp [hc]
end

/-- The words of a new message laid over the wire's words at slot s. -/
def lay (n s : Nat) (qs : List Pt) (F : Nat → Nat) (g : Nat) : Nat := if s * n ≤ g ∧ g < (s + 1) * n then one (g - s * n) qs else F g

/-- One step 'append(w.chunks, make(message, ..))' of a region that draws its order. -/
theorem step_append_chunk {w : World} {ops : Array Oper} {o : Oper} {a : Act} {K : Act → World → Prop} {Q : Exit → Act → World → Prop} {E : Prop} (hgd : o.guard = none) (s x : Operand)
    (ho : o.op = .call { callee := .builtin .append, args := #[s, x], argTypes := #[80, 80] })
    (B : Nat) (v : Value) (n : Nat) (xs : List Value) (hs : a.eval s = v) (hown : w.ownsRow B 81 1 v n xs) (g : Nat) (u : Value) (hx : a.eval x = .slice (some ⟨g, 0, none⟩) 1 1) (hb : Blk w g #[u] 81) (hu : u.oneCell' = true)
    (hn : n ≤ 2000000) (hB : B ≤ w.heap.size)
    (h : ∀ gg cap w', w'.ownsRow B 81 1 (.slice (some ⟨gg, 0, none⟩) (n + 1) cap) (n + 1) (xs ++ [u]) → w.grownBy w' v.ownBlock → K (a.put o.dst (.slice (some ⟨gg, 0, none⟩) (n + 1) cap)) w') :
    if Region.wanted o (yielded ops a.tmps) = true then Oper.wp Try.prog o a w K Q else E := by
  obtain ⟨i0, hi, hz0, hz1, hz2⟩ := info_parts (P := Try.prog) (e := 81) (z := .slice none 0 0) (size := 1) (bytes := 24) (by kernel_rfl)
  refine step_append_lies _ hgd s x 80 ho B 81 i0 (.slice none 0 0) 1 24 Try.underlying80 hi hz0 hz1 hz2 rfl (by omega) v n xs hs hown ⟨g, 0, none⟩ 1 1 [u] hx rfl
    (World.news_of_block (cs := #[u]) (t := 81) (fr := (0, 0)) hb) (by simpa using hu) (by omega) (by unfold maxLen; omega) (by omega) hB w.heap.size rfl ?_
  intro gg cap w1 h1 h2 _ _
  exact h gg cap w1 h1 h2
end Go.Proofs.Qxb6619498a
