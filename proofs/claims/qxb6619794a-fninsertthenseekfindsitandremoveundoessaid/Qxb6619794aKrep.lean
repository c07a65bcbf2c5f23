import Derived.Test.Qxb6619794aInsP
namespace Go.Proofs.Qxb6619794a
open Go.RowKit

/-- One chunk: its block, its row's block, the row's capacity, its epoch, its keys. -/
structure Ch where
  p : Nat
  r : Nat
  cap : Nat
  e : Int
  ss : List ByteArray

def chVals (c : Ch) : Array Value := #[.slice (some ⟨c.r, 0, none⟩) c.ss.length c.cap, .int .u64 c.e]
def ChAt (B : Nat) (w : World) (c : Ch) : Prop := B ≤ c.p ∧ B ≤ c.r ∧ Blk w c.p (chVals c) 59 ∧ RowAt w c.r c.cap c.ss
def cptrs (cs : List Ch) : List Value := cs.map fun c => ptr c.p
/-- The value of the field 'chunks'. -/
def KV (B : Nat) (w : World) (v : Value) (cs : List Ch) : Prop :=
  (cs = [] ∧ ∃ co cap, v = .slice co 0 cap) ∨ ∃ cb ccap, v = .slice (some ⟨cb, 0, none⟩) cs.length ccap ∧ B ≤ cb ∧ GRow w cb ccap 57 (cptrs cs)
/-- A sortedKeys of the call's own: nothing of it lies below block B. -/
def KAt (B : Nat) (w : World) (kb : Nat) (cs : List Ch) (ep : Int) (sh : Bool) : Prop :=
  B ≤ kb ∧ (∀ c ∈ cs, ChAt B w c) ∧ (cs.map Ch.p).Nodup ∧ (cs.map Ch.r).Nodup ∧ ∃ v, Blk w kb #[v, .int .u64 ep, .bool sh] 56 ∧ KV B w v cs

theorem GRow.imp {w w' : World} {r cap : Nat} {t : TypeId} {xs : List Value} (h : GRow w r cap t xs) (hi : ∀ C, Blk w r C t → Blk w' r C t) : GRow w' r cap t xs := by
  obtain ⟨L, h1, h2⟩ := h; exact ⟨L, hi _ h1, h2⟩
theorem GRow.cell {w : World} {r cap : Nat} {t : TypeId} {xs : List Value} (h : GRow w r cap t xs) {j : Nat} (hj : j < xs.length) : w.cell? ⟨r, j, none⟩ = some xs[j] := by
  obtain ⟨L, h1, h2, h3, h4, h5⟩ := h
  rw [h1.cell, List.getElem?_toArray]
  have : (L.take xs.length)[j]? = some xs[j] := by rw [h5]; simp [hj]
  rw [List.getElem?_take_of_lt hj] at this
  exact this
theorem GRow.free {w : World} {r cap : Nat} {t : TypeId} {xs : List Value} (h : GRow w r cap t xs) (j : Nat) : w.frozen? ⟨r, j, none⟩ = false := by
  obtain ⟨L, h1, _⟩ := h; exact h1.free j
theorem GRow.lt {w : World} {r cap : Nat} {t : TypeId} {xs : List Value} (h : GRow w r cap t xs) : r < w.heap.size := by
  obtain ⟨L, h1, _⟩ := h; exact h1.lt
theorem GRow.le {w : World} {r cap : Nat} {t : TypeId} {xs : List Value} (h : GRow w r cap t xs) : xs.length ≤ cap ∧ cap ≤ maxLen := by
  obtain ⟨L, h1, h2, h3, h4, _⟩ := h; exact ⟨h3, h4⟩
theorem GRow.blk {w : World} {r cap : Nat} {t : TypeId} {xs : List Value} (h : GRow w r cap t xs) : ∃ C, Blk w r C t := by
  obtain ⟨L, h1, _⟩ := h; exact ⟨_, h1⟩
theorem GRow.set {w : World} {r cap : Nat} {t : TypeId} {xs : List Value} (h : GRow w r cap t xs) (j : Nat) (u : Value) : GRow (w.setCell ⟨r, j, none⟩ u) r cap t (xs.set j u) := by
  obtain ⟨L, h1, h2, h3, h4, h5⟩ := h
  refine ⟨L.set j u, ?_, by simpa using h2, by simpa using h3, h4, ?_⟩
  · have := h1.set j u
    simpa using this
  · rw [List.length_set, List.take_set, h5]

theorem RowAt.grow {w : World} {r cap : Nat} {ss : List ByteArray} (h : RowAt w r cap ss) : GRow w r cap 9 (ss.map Value.string) := by
  obtain ⟨cur, h1, h2, h3, h4, h5⟩ := h
  exact ⟨cur.toList, by simpa using h1, by simpa using h2, by simpa using h3, h4, by simpa using h5⟩
theorem GRow.row {w : World} {r cap : Nat} {ss : List ByteArray} {xs : List Value} (h : GRow w r cap 9 xs) (hx : xs = ss.map Value.string) : RowAt w r cap ss := by
  subst hx
  obtain ⟨L, h1, h2, h3, h4, h5⟩ := h
  exact ⟨L.toArray, h1, by simpa using h2, by simpa using h3, h4, by simpa using h5⟩

theorem ChAt.imp {B : Nat} {w w' : World} {c : Ch} (h : ChAt B w c) (hp : ∀ C, Blk w c.p C 59 → Blk w' c.p C 59) (hr : ∀ C, Blk w c.r C 9 → Blk w' c.r C 9) : ChAt B w' c :=
  ⟨h.1, h.2.1, hp _ h.2.2.1, h.2.2.2.imp hr⟩
theorem KV.imp {B : Nat} {w w' : World} {v : Value} {cs : List Ch} (h : KV B w v cs) (hi : ∀ b C, Blk w b C 57 → Blk w' b C 57) : KV B w' v cs := by
  rcases h with h | ⟨cb, ccap, h1, h2, h3⟩
  · exact .inl h
  · exact .inr ⟨cb, ccap, h1, h2, h3.imp (hi cb)⟩
/-- Where no block of the four kinds has turned. -/
theorem KAt.imp {B : Nat} {w w' : World} {kb : Nat} {cs : List Ch} {ep : Int} {sh : Bool} (h : KAt B w kb cs ep sh) (hi : ∀ b C t, Blk w b C t → Blk w' b C t) : KAt B w' kb cs ep sh := by
  obtain ⟨h1, h2, h3, h4, v, h5, h6⟩ := h
  exact ⟨h1, fun c hc => (h2 c hc).imp (fun _ => hi _ _ _) (fun _ => hi _ _ _), h3, h4, v, hi _ _ _ h5, h6.imp fun b C => hi b C 57⟩
theorem KAt.below {B : Nat} {w w' : World} {kb : Nat} {cs : List Ch} {ep : Int} {sh : Bool} (h : KAt B w kb cs ep sh) (hb : Below w.heap.size w w') : KAt B w' kb cs ep sh :=
  h.imp fun _ _ _ hk => hk.below hb hk.lt

/-- What a change of the sortedKeys leaves alone. -/
def KFrame (B : Nat) (w w' : World) : Prop := Below B w w' ∧ ∀ b C t, t ≠ 9 → t ≠ 56 → t ≠ 57 → t ≠ 59 → Blk w b C t → Blk w' b C t
theorem KFrame.trans {B : Nat} {a b c : World} (h : KFrame B a b) (k : KFrame B b c) : KFrame B a c :=
  ⟨h.1.trans k.1, fun x C t h1 h2 h3 h4 hb => k.2 x C t h1 h2 h3 h4 (h.2 x C t h1 h2 h3 h4 hb)⟩
theorem KFrame.refl (B : Nat) (w : World) : KFrame B w w := ⟨Below.refl _ _, fun _ _ _ _ _ _ _ h => h⟩
theorem KFrame.of_below {B : Nat} {w w' : World} (h : Below w.heap.size w w') (hB : B ≤ w.heap.size) : KFrame B w w' :=
  ⟨h.mono hB, fun _ _ _ _ _ _ _ hk => hk.below h hk.lt⟩

theorem KAt.kview {B : Nat} {w : World} {kb : Nat} {cs : List Ch} {ep : Int} {sh : Bool} (h : KAt B w kb cs ep sh) : KView w kb (cs.map Ch.ss) := by
  obtain ⟨h1, h2, h3, h4, v, h5, h6⟩ := h
  rcases h6 with ⟨rfl, co, cap, rfl⟩ | ⟨cb, ccap, rfl, hB, hg⟩
  · exact ⟨co, cap, by rw [h5.cell]; rfl, fun j hj => by simp at hj⟩
  · refine ⟨some ⟨cb, 0, none⟩, ccap, by rw [h5.cell]; simp, fun j hj => ?_⟩
    have hj' : j < cs.length := by simpa using hj
    have hc := h2 cs[j] (List.getElem_mem hj')
    refine ⟨cb, 0, cs[j].p, some ⟨cs[j].r, 0, none⟩, cs[j].cap, rfl, ?_, ?_, ?_⟩
    · rw [Nat.zero_add, hg.cell (by simpa [cptrs] using hj')]
      simp [cptrs, ptr]
    · rw [hc.2.2.1.cell]; simp [chVals]
    · have := hc.2.2.2.strs
      simpa using this

/-- The chunks' array of a set that is not empty. -/
theorem KAt.arr {B : Nat} {w : World} {kb : Nat} {cs : List Ch} {ep : Int} {sh : Bool} (h : KAt B w kb cs ep sh) (hne : 0 < cs.length) :
    ∃ cb ccap, B ≤ cb ∧ GRow w cb ccap 57 (cptrs cs) ∧ Blk w kb #[.slice (some ⟨cb, 0, none⟩) cs.length ccap, .int .u64 ep, .bool sh] 56 := by
  obtain ⟨h1, h2, h3, h4, v, h5, h6⟩ := h
  rcases h6 with ⟨rfl, _⟩ | ⟨cb, ccap, rfl, hB, hg⟩
  · simp at hne
  · exact ⟨cb, ccap, hB, hg, h5⟩

theorem cptrs_length (cs : List Ch) : (cptrs cs).length = cs.length := by simp [cptrs]
theorem cptrs_get {cs : List Ch} {j : Nat} (h : j < cs.length) (h' : j < (cptrs cs).length) : (cptrs cs)[j] = .pointer (some ⟨cs[j].p, 0, none⟩) := by simp [cptrs, ptr]
end Go.Proofs.Qxb6619794a
