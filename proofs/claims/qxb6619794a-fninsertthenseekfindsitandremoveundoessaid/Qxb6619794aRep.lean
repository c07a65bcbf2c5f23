import Derived.Test.Qxb6619794aLawA
import Derived.Laws.CopyOwn
import Derived.Lib.AppendZerosOnto
import Derived.Lib.Overlaps
namespace Go.Proofs.Qxb6619794a
open Go.RowKit

/-- Block r is a row of cap strings' cells, the first of which are ss. -/
def RowAt (w : World) (r cap : Nat) (ss : List ByteArray) : Prop :=
  ∃ cur, Blk w r cur 9 ∧ cur.size = cap ∧ ss.length ≤ cap ∧ cap ≤ maxLen ∧ cur.toList.take ss.length = ss.map Value.string

theorem RowAt.own {w : World} {r cap : Nat} {ss : List ByteArray} (h : RowAt w r cap ss) {B : Nat} (hB : B ≤ r) : w.ownsRow B 9 1 (.slice (some ⟨r, 0, none⟩) ss.length cap) ss.length (ss.map Value.string) := by
  obtain ⟨cur, h1, h2, h3, h4, h5⟩ := h
  exact ⟨by simp, .inr ⟨r, cap, cur, rfl, hB, h1, h3, h4, by simpa using h2, by simpa using h5⟩⟩

theorem RowAt.of_own {w : World} {B r n cap : Nat} {xs : List Value} {ss : List ByteArray} (h : w.ownsRow B 9 1 (.slice (some ⟨r, 0, none⟩) n cap) n xs) (hx : xs = ss.map Value.string) : B ≤ r ∧ n = ss.length ∧ RowAt w r cap ss := by
  obtain ⟨h1, h⟩ := h
  subst hx
  have hn : n = ss.length := by simpa using h1.symm
  subst hn
  rcases h with ⟨h, _⟩ | ⟨g, cap', cur, hv, hB, hg, h3, h4, h2, h5⟩
  · cases h
  · cases hv
    exact ⟨hB, rfl, cur, hg, by simpa using h2, h3, h4, by simpa using h5⟩

theorem RowAt.strs {w : World} {r cap : Nat} {ss : List ByteArray} (h : RowAt w r cap ss) : StrsAt w (some ⟨r, 0, none⟩) ss := by
  obtain ⟨cur, h1, h2, h3, h4, h5⟩ := h
  intro j hj
  refine ⟨r, 0, rfl, ?_⟩
  rw [h1.cell, Nat.zero_add]
  have : (cur.toList.take ss.length)[j]? = some (.string ss[j]) := by rw [h5]; simp [hj]
  rw [List.getElem?_take_of_lt hj] at this
  simpa using this

theorem RowAt.imp {w w' : World} {r cap : Nat} {ss : List ByteArray} (h : RowAt w r cap ss) (hi : ∀ C, Blk w r C 9 → Blk w' r C 9) : RowAt w' r cap ss := by
  obtain ⟨cur, h1, h2⟩ := h
  exact ⟨cur, hi _ h1, h2⟩

theorem RowAt.below {w w' : World} {B r cap : Nat} {ss : List ByteArray} (h : RowAt w r cap ss) (hb : Below B w w') (hB : r < B) : RowAt w' r cap ss := h.imp fun _ hc => hc.below hb hB

theorem RowAt.lt {w : World} {r cap : Nat} {ss : List ByteArray} (h : RowAt w r cap ss) : r < w.heap.size := by
  obtain ⟨cur, h1, _⟩ := h; exact h1.lt

def RetRow (ss : List ByteArray) (w : World) (e : Ending) (w' : World) : Prop :=
  ∃ r cap, e = .returned (.slice (some ⟨r, 0, none⟩) ss.length cap) ∧ w.heap.size ≤ r ∧ RowAt w' r cap ss ∧ Below w.heap.size w w'

theorem addr_add (b off i : Nat) : (⟨b, off, none⟩ : Addr).add i = ⟨b, off + i, none⟩ := by unfold Addr.add; split <;> simp_all

/-- 'append(s, ts...)' onto the call's own strings: something is appended. -/
theorem wpList_append_many {w : World} {ops : Array Oper} {rest : List Oper} {o : Oper} {a : Act} {Q : Exit → Act → World → Prop} (hgd : o.guard = none) (s x : Operand)
    (ho : o.op = .call { callee := .builtin .append, args := #[s, x], argTypes := #[30, 30] })
    (B : Nat) (v : Value) (ss : List ByteArray) (hs : a.eval s = v) (hown : OwnS w B v ss) (ad : Addr) (m c : Nat) (ts : List ByteArray) (hx : a.eval x = .slice (some ad) m c) (hm : ts.length = m) (hm0 : 0 < m) (hc : StrsAt w (some ad) ts)
    (hlen : ss.length + m ≤ 4000000) (hB : B ≤ w.heap.size)
    (h : ∀ g cap w', B ≤ g → RowAt w' g cap (ss ++ ts) → w.grownBy w' v.ownBlock → (v.ownBlock = some g ∨ g = w.heap.size) → wpList Try.prog ops Q rest (a.put o.dst (.slice (some ⟨g, 0, none⟩) (ss.length + m) cap)) w') : wpList Try.prog ops Q (o :: rest) a w := by
  obtain ⟨i0, hi, hz0, hz1, hz2⟩ := info_parts (P := Try.prog) (e := 9) (z := .string ByteArray.empty) (size := 1) (bytes := 16) (by kernel_rfl)
  refine wpList_append_lies _ hgd s x 30 ho B 9 i0 (.string ByteArray.empty) 1 16 Try.underlying30 hi hz0 hz1 hz2 rfl (by decide) v ss.length (ss.map Value.string) hs hown ad m c (ts.map Value.string) hx (by simp [hm]) ?_ ?_ hm0 ?_ ?_ hB w.heap.size rfl ?_
  · intro j u hj
    have hjt : j < ts.length := by
      rcases Nat.lt_or_ge j ts.length with g | g
      · exact g
      · rw [List.getElem?_eq_none (by simpa using g)] at hj; cases hj
    obtain ⟨b, off, e1, e2⟩ := hc j hjt
    cases e1
    rw [List.getElem?_map, List.getElem?_eq_getElem hjt] at hj
    simp at hj
    subst hj
    rw [addr_add]; exact e2
  · intro u hu; simp at hu; obtain ⟨x, _, rfl⟩ := hu; rfl
  · unfold maxLen; omega
  · omega
  · intro g cap w' h1 h2 h3 _
    obtain ⟨q1, _, q3⟩ := RowAt.of_own h1 (ss := ss ++ ts) (by simp)
    exact h g cap w' q1 q3 h2 h3

theorem ownS_empty (w : World) (B : Nat) (hB : B ≤ w.heap.size) : OwnS (w.alloc (.cells #[] 9)) B (.slice (some ⟨w.heap.size, 0, none⟩) 0 0) [] :=
  ⟨rfl, .inr ⟨w.heap.size, 0, #[], rfl, hB, heap_alloc_new w _, Nat.le_refl _, Nat.zero_le _, rfl, rfl⟩⟩

set_option maxHeartbeats 1000000 in
theorem clone48 (b off n cap : Nat) (ss : List ByteArray) (hn : 0 < n) (hl : n ≤ 2000000) (hnl : ss.length = n) (w : World) (hs : StrsAt w (some ⟨b, off, none⟩) ss) :
    Calls Try.prog 48 #[.slice (some ⟨b, off, none⟩) n cap] w fun e w' => RetRow ss w e w' := by
  have HS : Hid (StrsAt w (some ⟨b, off, none⟩) ss) := hs
  have HNL : Hid (ss.length = n) := hnl
  clear hs hnl
  have hnil := nil30
  go_enter Try.func48, Try.ntmps48
  go_wp2_with (at_builtin; refine wpList_append_many rfl _ _ rfl w.heap.size _ [] rfl (ownS_empty w _ (Nat.le_refl _)) ⟨b, off, none⟩ n cap ss rfl HNL.out hn (HS.out.below ((Below.refl _ _).alloc (Nat.le_refl _) _)) ?_ ?_ ?_)
  · simp; omega
  · simp
  · intro g cp w' hB hrow hgrow _
    have HR : Hid (RowAt w' g cp ss) := hrow
    have HB : Hid (Below w.heap.size w w') := ((Below.refl w.heap.size w).alloc (Nat.le_refl _) _).grown hgrow (by simp) (fun k hk => by simp [Value.ownBlock] at hk; omega)
    clear hrow hgrow
    go_wp2
    go_ret
    refine ⟨g, cp, ?_, hB, HR.out, HB.out⟩
    rw [HNL.out]; rfl
end Go.Proofs.Qxb6619794a
