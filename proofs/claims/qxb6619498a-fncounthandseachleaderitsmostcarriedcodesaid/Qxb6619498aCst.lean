import Derived.Test.Qxb6619498aMost
import Derived.Test.Qxb6619498aRun
namespace Go.Proofs.Qxb6619498a
open Go.RowKit

/-- The workspace's cells. -/
def wsArr (hb H width block kb mb : Nat) (tv : Value) : Array Value :=
  #[.slice (some ⟨hb, 0, none⟩) H H, .int .i64 (width : Int), .int .i64 (block : Int), .slice (some ⟨kb, 0, none⟩) (block * width) (block * width), tv, .slice (some ⟨mb, 0, none⟩) block block, .slice none 0 0]
/-- The node's cells. -/
def ndArr (n t : Int) (cb K wsb : Nat) : Array Value :=
  #[.int .i64 0, .int .i64 n, .int .i64 t, .int .i64 0, .slice (some ⟨cb, 0, none⟩) K K, .slice none 0 0, .int .i64 0, .int .i64 0, .bool false, .int .i64 0, .slice none 0 0, .slice none 0 0, .pointer (some ⟨wsb, 0, none⟩)]
def iv (i : Nat) : Value := .int .i64 (i : Int)

/-- The heard messages of a workspace. -/
def HeardN (w : World) (hb kb : Nat) (hs : List HM) : Prop :=
  ∃ C, Blk w hb C 87 ∧ ∀ j (h : j < hs.length), C[j * 2]? = some (.int .i64 hs[j].fr) ∧ C[j * 2 + 1]? = some (.slice hs[j].ao hs[j].ws.length hs[j].ws.length) ∧
    ((hs[j].ao = none ∧ hs[j].ws = []) ∨ ∃ b, hs[j].ao = some ⟨b, 0, none⟩ ∧ b ≠ kb ∧ Blk w b (wl hs[j].ws) 54)

/-- The counting: counts C, touched indexes T. -/
structure CSt (L : Nat) (w0 w : World) (wsb kb sz : Nat) (hb H width block mb : Nat) (C : Nat → Nat) (T : List Nat) (tv : Value) : Prop where
  ws : Blk w wsb (wsArr hb H width block kb mb tv) 94
  cn : Blk w kb (wordsOf sz C) 54
  own : w.ownsRow L 3 1 tv T.length (T.map iv)
  keep : ∀ b D t, t ≠ 94 → t ≠ 3 → b ≠ kb → Blk w0 b D t → Blk w b D t
  bel : Below L w0 w
  lowW : L ≤ wsb
  lowK : L ≤ kb

section
variable {L : Nat} {w0 w : World} {wsb kb sz hb H width block mb : Nat} {C : Nat → Nat} {T : List Nat} {tv : Value}

theorem CSt.hw (h : CSt L w0 w wsb kb sz hb H width block mb C T tv) (hL : L ≤ w0.heap.size) : L ≤ w.heap.size := Nat.le_trans hL h.bel.size
theorem CSt.alloc (h : CSt L w0 w wsb kb sz hb H width block mb C T tv) (hL : L ≤ w0.heap.size) (o : Obj) : CSt L w0 (w.alloc o) wsb kb sz hb H width block mb C T tv :=
  ⟨h.ws.alloc o, h.cn.alloc o, h.own.alloc o, fun b D t h1 h2 h3 h4 => (h.keep b D t h1 h2 h3 h4).alloc o, h.bel.alloc (h.hw hL) o, h.lowW, h.lowK⟩
theorem CSt.set (h : CSt L w0 w wsb kb sz hb H width block mb C T tv) (i x : Nat) : CSt L w0 (w.setCell ⟨kb, i, none⟩ (.int .u32 (x : Int))) wsb kb sz hb H width block mb (fun j => if j = i then x else C j) T tv := by
  refine ⟨h.ws.set_ne (h.ws.type_ne h.cn (by decide)) _ _, ?_, own_set_ne h.own (own_ne h.own h.cn (by decide)) _ _, fun b D t h1 h2 h3 h4 => (h.keep b D t h1 h2 h3 h4).set_ne h3 _ _, h.bel.setCell h.lowK _, h.lowW, h.lowK⟩
  have := h.cn.set i (.int .u32 (x : Int))
  rw [wordsOf_set] at this; exact this
theorem CSt.add {o : Obj} {w1 : World} {tv' : Value} {i : Nat} (h : CSt L w0 w wsb kb sz hb H width block mb C T tv) (hL : L ≤ w0.heap.size) (hgr : (w.alloc o).grownBy w1 tv.ownBlock) (hown : w1.ownsRow L 3 1 tv' (T.length + 1) (T.map iv ++ [iv i])) :
    CSt L w0 (w1.setCell ⟨wsb, 4, none⟩ tv') wsb kb sz hb H width block mb C (T ++ [i]) tv' := by
  have keep : ∀ b D t, tv.ownBlock ≠ some b → Blk w b D t → Blk w1 b D t := fun b D t hne hB => (hB.alloc o).grown hgr hne
  have hw1 := keep _ _ _ (own_ne h.own h.ws (by decide)) h.ws
  have hk1 := keep _ _ _ (own_ne h.own h.cn (by decide)) h.cn
  refine ⟨hw1.set 4 tv', hk1.set_ne (h.cn.type_ne h.ws (by decide)) _ _, ?_, ?_, ?_, h.lowW, h.lowK⟩
  · rw [List.length_append, List.length_singleton, List.map_append]
    exact own_set_ne hown (own_ne hown hw1 (by decide)) _ _
  · intro b D t h1 h2 h3 h4
    have h5 := h.keep b D t h1 h2 h3 h4
    exact (keep _ _ _ (own_ne h.own h5 (Ne.symm h2)) h5).set_ne (h5.type_ne h.ws h1) _ _
  · refine Below.setCell (p := ⟨wsb, 4, none⟩) ?_ h.lowW _
    exact Below.grown (h.bel.alloc (h.hw hL) o) hgr (by have := h.hw hL; simp; omega) (fun q hq => (h.own.lt q hq).1)
end

theorem wpList_append_i {w : World} {ops : Array Oper} {rest : List Oper} {o : Oper} {a : Act} {Q : Exit → Act → World → Prop} (hgd : o.guard = none) (s x : Operand)
    (ho : o.op = .call { callee := .builtin .append, args := #[s, x], argTypes := #[64, 64] })
    (B : Nat) (v : Value) (n : Nat) (xs : List Value) (hs : a.eval s = v) (hown : w.ownsRow B 3 1 v n xs) (g : Nat) (u : Value) (hx : a.eval x = .slice (some ⟨g, 0, none⟩) 1 1) (hb : Blk w g #[u] 3) (hu : u.oneCell' = true)
    (hn : n ≤ 1000000000) (hB : B ≤ w.heap.size)
    (h : ∀ gg cap w', w'.ownsRow B 3 1 (.slice (some ⟨gg, 0, none⟩) (n + 1) cap) (n + 1) (xs ++ [u]) → w.grownBy w' v.ownBlock → wpList Try.prog ops Q rest (a.put o.dst (.slice (some ⟨gg, 0, none⟩) (n + 1) cap)) w') : wpList Try.prog ops Q (o :: rest) a w := by
  obtain ⟨i0, hi, hz0, hz1, hz2⟩ := info_parts (P := Try.prog) (e := 3) (z := .int .i64 0) (size := 1) (bytes := 8) (by kernel_rfl)
  refine wpList_append_lies _ hgd s x 64 ho B 3 i0 (.int .i64 0) 1 8 Try.underlying64 hi hz0 hz1 hz2 rfl (by omega) v n xs hs hown ⟨g, 0, none⟩ 1 1 [u] hx rfl
    (World.news_of_block (cs := #[u]) (t := 3) (fr := (0, 0)) hb) (by simpa using hu) (by omega) (by unfold maxLen; omega) (by omega) hB w.heap.size rfl ?_
  intro gg cap w1 h1 h2 _ _
  exact h gg cap w1 h1 h2

/-- 'clear(mosts)': pairs of ints. -/
theorem setCells_ints (b m : Nat) (t : TypeId) : ∀ (n o : Nat) (w : World) (f : Nat → Nat), Blk w b (intsOf m f) t →
    Blk (w.setCells b o (List.replicate n (.int .i64 0))) b (intsOf m fun j => if o ≤ j ∧ j < o + n then 0 else f j) t ∧ w.grownBy (w.setCells b o (List.replicate n (.int .i64 0))) (some b)
  | 0, o, w, f, h => ⟨by
      rw [intsOf_congr (g := f) (fun i _ => by rw [if_neg (by omega)])]
      simpa [World.setCells] using h, World.grownBy.refl _ _⟩
  | n + 1, o, w, f, h => by
    have h1 := h.set o (.int .i64 ((0 : Nat) : Int))
    rw [intsOf_set] at h1
    obtain ⟨a1, a2⟩ := setCells_ints b m t n (o + 1) (w.setCell ⟨b, o, none⟩ (.int .i64 0)) _ h1
    have e0 : w.setCells b o (List.replicate (n + 1) (.int .i64 0)) = (w.setCell ⟨b, o, none⟩ (.int .i64 0)).setCells b (o + 1) (List.replicate n (.int .i64 0)) := rfl
    rw [e0]
    refine ⟨?_, ?_⟩
    · rw [intsOf_congr (g := fun j => if o + 1 ≤ j ∧ j < o + 1 + n then 0 else if j = o then 0 else f j)]
      · exact a1
      · intro i hi
        by_cases h1 : i = o
        · subst h1; rw [if_pos (by omega), if_neg (by omega), if_pos rfl]
        · by_cases h2 : o + 1 ≤ i ∧ i < o + 1 + n
          · rw [if_pos (by omega), if_pos h2]
          · rw [if_neg (by omega), if_neg h2, if_neg h1]
    · have e : (w.setCell ⟨b, o, none⟩ (.int .i64 0)).heap.size = w.heap.size := by simp [World.setCell]
      have hs := a2.size
      rw [e] at hs
      refine ⟨a2.os, a2.tape, a2.output, hs, fun k hk hne => ?_⟩
      rw [a2.block k (by simpa [World.setCell] using hk) hne]
      exact Below.heap_setCell _ _ _ _ (fun e => hne (by rw [e]))

theorem zeroCells_pair (n : Nat) : (Builtin.zeroCells (Value.cells (.agg #[.int .i64 0, .int .i64 0])) n).toList = List.replicate (2 * n) (.int .i64 0) := by
  have hc : Value.cells (.agg #[.int .i64 0, .int .i64 0]) = #[.int .i64 0, .int .i64 0] := rfl
  rw [hc]
  apply List.ext_getElem
  · simp [Builtin.zeroCells]; omega
  · intro i h1 h2
    simp [Builtin.zeroCells]
    have : i % 2 = 0 ∨ i % 2 = 1 := by omega
    rcases this with h | h <;> simp [h]

theorem wpList_clear_pairs {w : World} {ops : Array Oper} {rest : List Oper} {o : Oper} {a : Act} {Q : Exit → Act → World → Prop} (hgd : o.guard = none) (s : Operand)
    (ho : o.op = .call { callee := .builtin .clear, args := #[s], argTypes := #[92] })
    (r n c : Nat) (hs : a.eval s = .slice (some ⟨r, 0, none⟩) n c) (hn : 0 < n) (m : Nat) (f : Nat → Nat) (hb : Blk w r (intsOf m f) 102) (hfit : 2 * n ≤ m)
    (h : ∀ w', Blk w' r (intsOf m fun j => if 0 ≤ j ∧ j < 0 + 2 * n then 0 else f j) 102 → w.grownBy w' (some r) → wpList Try.prog ops Q rest (a.put o.dst (.tuple #[])) w') : wpList Try.prog ops Q (o :: rest) a w := by
  refine wpList_plain hgd fun K hK => ?_
  have hst := run_storeCells_cells (P := Try.prog) r 0 (List.replicate (2 * n) (.int .i64 0)) 0 w (by
    intro j hj
    rw [Nat.zero_add, hb.cell, intsOf_get _ (by simp at hj; omega)]; simp) (by intro j _; exact hb.free _) (by intro v hv'; rw [List.eq_of_mem_replicate hv']; rfl)
  simp only [Nat.add_zero] at hst
  obtain ⟨a1, a2⟩ := setCells_ints r m 102 (2 * n) 0 w f hb
  have hrun : (Builtin.clear_ #[92] o.type #[.slice (some ⟨r, 0, none⟩) n c]).run Try.prog w = .ok (.tuple #[]) (w.setCells r 0 (List.replicate (2 * n) (.int .i64 0))) := by
    obtain ⟨m', rfl⟩ : ∃ m', n = m' + 1 := ⟨n - 1, by omega⟩
    simp [Builtin.clear_, run_underlying Try.underlying92, zeroCells_pair, hst]
  unfold Oper.wp
  simp [execOp, ho, resolve, invoke, builtin, hs, hrun, Result.andThen]
  exact hK _ _ (h _ a1 a2)
end Go.Proofs.Qxb6619498a
