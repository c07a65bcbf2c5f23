import Derived.Test.Qxb6619794aKdel
namespace Go.Proofs.Qxb6619794a
open Go.RowKit

def RetRem (B kb : Nat) (cs : List Ch) (key : ByteArray) (ep : Int) (sh : Bool) (w : World) (e : Ending) (w' : World) : Prop :=
  ∃ s', RetK B kb cs s' ep sh w e w' ∧ Rem (cs.map Ch.ss) s' key

/-- Between the two halves of remove. -/
def Mid (B kb : Nat) (cs cs1 : List Ch) (ep : Int) (sh : Bool) (w w1 : World) : Prop :=
  KAt B w1 kb cs1 ep sh ∧ others (cs1.map Ch.e) ep ≤ others (cs.map Ch.e) ep ∧ KFrame B w w1 ∧
    (sh = true → ∀ x ∈ cs, x.e ≠ ep → (∀ C, Blk w x.r C 9 → Blk w1 x.r C 9) ∧ ∀ y ∈ cs1, y.e = ep → y.r ≠ x.r)

theorem Mid.retK {B kb : Nat} {cs cs1 : List Ch} {ep : Int} {sh : Bool} {w w1 w2 : World} (h : Mid B kb cs cs1 ep sh w w1) (hs : Still w1 w2) {s' : List (List ByteArray)} (hs' : cs1.map Ch.ss = s') : RetK B kb cs s' ep sh w (.returned (.tuple #[])) w2 := by
  obtain ⟨h1, h2, h3, h4⟩ := h
  refine ⟨rfl, cs1, h1.below (hs.below _), hs', h2, ⟨h3.1.trans (hs.below _), fun b C t a1 a2 a3 a4 hb => (h3.2 b C t a1 a2 a3 a4 hb).still hs⟩, fun hsh x hx he C hC => ((h4 hsh x hx he).1 C hC).still hs⟩

/-- The first half: chunk ci has its row in hand, shortened, laid back. -/
theorem mid_first {B kb : Nat} {cs : List Ch} {ci : Nat} {ep : Int} {sh : Bool} {w w2 w4 : World} {c : Ch} {T : List ByteArray} (hk : KAt B w kb cs ep sh) (hci : ci < cs.length) (hout : OwnOut w cs[ci] c ep sh) (hk2 : KAt B w2 kb (cs.set ci c) ep sh)
    (hpass : ∀ b C t, t ≠ 57 → Blk w b C t → Blk w2 b C t) (hb2 : Below B w w2) (hgr : w2.grownBy w4 (some c.r)) (hrow : RowAt w4 c.r c.cap T) :
    Mid B kb cs (cs.set ci ⟨c.p, c.r, c.cap, c.e, T⟩) ep sh w (w4.setCell ⟨c.p, 0, none⟩ (.slice (some ⟨c.r, 0, none⟩) T.length c.cap)) := by
  have hset : (cs.set ci c)[ci]'(by simpa using hci) = c := List.getElem_set_self _
  have hst := row_step (r' := c.r) (cap' := c.cap) (ss' := T) (w' := w4) hk2 (ci := ci) (by simpa using hci) (by rw [hset]; exact hgr) (by rw [hset]; exact .inl rfl) hrow
  rw [hset, List.set_set] at hst
  obtain ⟨hkF, hfr, hp9⟩ := hst
  have hfr2 : KFrame B w w2 := ⟨hb2, fun b C t _ _ h7 _ hb => hpass b C t h7 hb⟩
  refine ⟨hkF, ?_, hfr2.trans hfr, ?_⟩
  · rw [List.map_set]
    exact others_set (e := c.e) (by simpa using hci) (own_others hci hout)
  · intro hs x hx he
    have hne := shared_ne hk hci hout hs hx he
    refine ⟨fun C hC => hp9 _ C hne (hpass _ _ _ (by decide) hC), fun y hy hye => ?_⟩
    obtain ⟨j, hj, rfl⟩ := List.mem_iff_getElem.1 hy
    have hj' : j < cs.length := by simpa using hj
    by_cases hji : j = ci
    · subst hji
      rw [List.getElem_set_self]
      exact Ne.symm hne
    · rw [List.getElem_set_ne (fun e => hji e.symm)] at hye ⊢
      obtain ⟨q, hq, rfl⟩ := List.mem_iff_getElem.1 hx
      intro e
      have := (List.getElem_inj (h₀ := by simpa using hj') (h₁ := by simpa using hq) hk.2.2.2.1).1 (by simpa using e)
      subst this
      exact he hye

/-- The second half: chunk j takes the row of its neighbour, which goes. -/
theorem mid_last {B kb : Nat} {cs cs1 : List Ch} {j n1 : Nat} {ep : Int} {sh : Bool} {w w5 w7 w8 w9 w10 : World} {d : Ch} {g cap8 : Nat} {U : List ByteArray} {cb ccap : Nat} (hm : Mid B kb cs cs1 ep sh w w5) (hj : j < cs1.length) (hj2 : j + 1 < cs1.length) (hn1 : cs1.length = n1 + 1) (hout : OwnOut w5 cs1[j] d ep sh)
    (hk7 : KAt B w7 kb (cs1.set j d) ep sh) (hpass : ∀ b C t, t ≠ 57 → Blk w5 b C t → Blk w7 b C t) (hb7 : Below B w5 w7)
    (hgr : w7.grownBy w8 (some d.r)) (hg : g = d.r ∨ w7.heap.size ≤ g) (hrow : RowAt w8 g cap8 U) (hw9 : w8.setCell ⟨d.p, 0, none⟩ (.slice (some ⟨g, 0, none⟩) U.length cap8) = w9)
    (hBc : B ≤ cb) (hg9 : ∃ C, Blk w9 cb C 57) (hkb : Blk w9 kb #[.slice (some ⟨cb, 0, none⟩) cs1.length ccap, .int .u64 ep, .bool sh] 56) (hgr10 : w9.grownBy w10 (some cb))
    (hg10 : GRow w10 cb ccap 57 ((cptrs (cs1.set j ⟨d.p, g, cap8, d.e, U⟩)).take (j + 1) ++ (cptrs (cs1.set j ⟨d.p, g, cap8, d.e, U⟩)).drop (j + 1 + 1))) :
    RetK B kb cs (((cs1.map Ch.ss).set j U).take (j + 1) ++ ((cs1.map Ch.ss).set j U).drop (j + 1 + 1)) ep sh w (.returned (.tuple #[])) (w10.setCell ⟨kb, 0, none⟩ (.slice (some ⟨cb, 0, none⟩) n1 ccap)) := by
  obtain ⟨h1, h2, h3, h4⟩ := hm
  have hset : (cs1.set j d)[j]'(by simpa using hj) = d := List.getElem_set_self _
  have hst := row_step (r' := g) (cap' := cap8) (ss' := U) (w' := w8) hk7 (ci := j) (by simpa using hj) (by rw [hset]; exact hgr) (by rw [hset]; exact hg) hrow
  rw [hset, List.set_set, hw9] at hst
  obtain ⟨hk9, hfr9, hp9⟩ := hst
  obtain ⟨hkF, hfr10, hp10⟩ := arr_del (cs := cs1.set j ⟨d.p, g, cap8, d.e, U⟩) (i := j + 1) (n1 := n1) hk9.1 (by simpa using hj2) (by rw [List.length_set]; exact hn1) (fun q hq _ => hk9.2.1 _ (List.getElem_mem hq)) hk9.2.2.1 hk9.2.2.2.1 hBc hg9 hkb hgr10 hg10
  have hfr7 : KFrame B w5 w7 := ⟨hb7, fun b C t _ _ h7 _ hb => hpass b C t h7 hb⟩
  refine ⟨rfl, _, hkF, ?_, ?_, ((h3.trans hfr7).trans hfr9).trans hfr10, ?_⟩
  · rw [List.map_append, List.map_take, List.map_drop, List.map_set]
  · rw [List.map_append, List.map_take, List.map_drop, List.map_set]
    refine Nat.le_trans (others_del _ _ _) (Nat.le_trans ?_ h2)
    exact others_set (e := d.e) (by simpa using hj) (own_others hj hout)
  · intro hs x hx he C hC
    obtain ⟨q1, q2⟩ := h4 hs x hx he
    have hx5 := q1 C hC
    refine hp10 _ C (hp9 _ C ?_ (hpass _ _ _ (by decide) hx5))
    intro e
    obtain ⟨_, o1, o2⟩ := hout
    rcases o2 with o2 | ⟨_, _, o2, _⟩
    · have hde := o1 hs
      rw [o2] at hde e
      exact q2 _ (List.getElem_mem hj) hde e.symm
    · have := hx5.lt; omega

/-- 'append(s, ts...)' as one step of a region that draws. -/
theorem step_append_many {w : World} {ops : Array Oper} {o : Oper} {a : Act} {K : Act → World → Prop} {Q : Exit → Act → World → Prop} {E : Prop} (hgd : o.guard = none) (s x : Operand)
    (ho : o.op = .call { callee := .builtin .append, args := #[s, x], argTypes := #[30, 30] })
    (B : Nat) (v : Value) (ss : List ByteArray) (n : Nat) (hn : ss.length = n) (hs : a.eval s = v) (hown : OwnS w B v ss) (ad : Addr) (m c : Nat) (ts : List ByteArray) (hx : a.eval x = .slice (some ad) m c) (hm : ts.length = m) (hm0 : 0 < m) (hc : StrsAt w (some ad) ts)
    (hlen : ss.length + m ≤ 4000000) (hB : B ≤ w.heap.size)
    (h : ∀ g cap w', RowAt w' g cap (ss ++ ts) → w.grownBy w' v.ownBlock → (v.ownBlock = some g ∨ g = w.heap.size) → K (a.put o.dst (.slice (some ⟨g, 0, none⟩) (n + m) cap)) w') :
    if Region.wanted o (yielded ops a.tmps) = true then Oper.wp Try.prog o a w K Q else E := by
  obtain ⟨i0, hi, hz0, hz1, hz2⟩ := info_parts (P := Try.prog) (e := 9) (z := .string ByteArray.empty) (size := 1) (bytes := 16) (by kernel_rfl)
  subst hn
  refine step_append_lies _ hgd s x 30 ho B 9 i0 (.string ByteArray.empty) 1 16 Try.underlying30 hi hz0 hz1 hz2 rfl (by decide) v ss.length (ss.map Value.string) hs hown ad m c (ts.map Value.string) hx (by simp [hm]) ?_ ?_ hm0 ?_ ?_ hB w.heap.size rfl ?_
  · intro j u hj
    have hjt : j < ts.length := by
      rcases Nat.lt_or_ge j ts.length with g | g
      · exact g
      · rw [List.getElem?_eq_none (by simpa using g)] at hj; cases hj
    obtain ⟨b, off, e1, e2⟩ := hc j hjt
    cases e1
    rw [List.getElem?_map, List.getElem?_eq_getElem hjt] at hj
    simp at hj
    subst hj
    rw [addr_add]; exact e2
  · intro u hu; simp at hu; obtain ⟨x, _, rfl⟩ := hu; rfl
  · unfold maxLen; omega
  · omega
  · intro g cap w' h1 h2 h3 _
    obtain ⟨_, _, q3⟩ := RowAt.of_own h1 (ss := ss ++ ts) (by simp)
    exact h g cap w' q3 h2 h3
theorem Mid.still {B kb : Nat} {cs cs1 : List Ch} {ep : Int} {sh : Bool} {w w1 w2 : World} (h : Mid B kb cs cs1 ep sh w w1) (hs : Still w1 w2) : Mid B kb cs cs1 ep sh w w2 := by
  obtain ⟨h1, h2, h3, h4⟩ := h
  exact ⟨h1.below (hs.below _), h2, ⟨h3.1.trans (hs.below _), fun b C t a1 a2 a3 a4 hb => (h3.2 b C t a1 a2 a3 a4 hb).still hs⟩, fun hsh x hx he => ⟨fun C hC => ((h4 hsh x hx he).1 C hC).still hs, (h4 hsh x hx he).2⟩⟩

theorem after_own {B kb : Nat} {cs1 : List Ch} {j j1 : Nat} {ep : Int} {sh : Bool} {w6 w7 : World} {cb ccap : Nat} {d z : Ch} (hkb : Blk w6 kb #[.slice (some ⟨cb, 0, none⟩) cs1.length ccap, .int .u64 ep, .bool sh] 56) (hj : j < cs1.length) (hj2 : j + 1 < cs1.length) (hjj : j1 = j + 1) (hz : cs1[j + 1] = z) (hzc : ChAt B w6 z)
    (hk7 : KAt B w7 kb (cs1.set j d) ep sh) (hpass : ∀ b C t, t ≠ 57 → Blk w6 b C t → Blk w7 b C t) :
    Blk w7 kb #[.slice (some ⟨cb, 0, none⟩) cs1.length ccap, .int .u64 ep, .bool sh] 56 ∧ GRow w7 cb ccap 57 (cptrs (cs1.set j d)) ∧ B ≤ cb ∧
    w7.cell? ⟨kb, 0, none⟩ = some (.slice (some ⟨cb, 0, none⟩) cs1.length ccap) ∧ w7.cell? ⟨cb, j1, none⟩ = some (.pointer (some ⟨z.p, 0, none⟩)) ∧
    w7.cell? ⟨z.p, 0, none⟩ = some (.slice (some ⟨z.r, 0, none⟩) z.ss.length z.cap) ∧ StrsAt w7 (some ⟨z.r, 0, none⟩) z.ss ∧ ChAt B w7 d := by
  have h1 := hpass _ _ _ (by decide) hkb
  obtain ⟨cb7, ccap7, hB7, hg7, hkb7⟩ := hk7.arr (by rw [List.length_set]; omega)
  have he := h1.inj hkb7
  simp at he
  obtain ⟨⟨rfl, rfl⟩, -⟩ : (cb = cb7 ∧ ccap = ccap7) ∧ True := ⟨by simpa using he, trivial⟩
  have hchd : ChAt B w7 d := by
    have := hk7.2.1 ((cs1.set j d)[j]'(by simpa using hj)) (List.getElem_mem _)
    rwa [List.getElem_set_self] at this
  have hzp : Blk w7 z.p (chVals z) 59 := hpass _ _ _ (by decide) hzc.2.2.1
  refine ⟨h1, hg7, hB7, by rw [h1.cell]; rfl, ?_, by rw [hzp.cell]; rfl, (hzc.2.2.2.imp fun C hC => hpass _ _ _ (by decide) hC).strs, hchd⟩
  subst hjj
  rw [hg7.cell (by rw [cptrs_length, List.length_set]; exact hj2), cptrs_get (by rw [List.length_set]; exact hj2), List.getElem_set_ne (by omega), hz]

theorem after_app {B kb : Nat} {cs1 : List Ch} {j : Nat} {ep : Int} {sh : Bool} {w7 w8 : World} {cb ccap : Nat} {d : Ch} {g cap8 : Nat} {U : List ByteArray} (hkb : Blk w7 kb #[.slice (some ⟨cb, 0, none⟩) cs1.length ccap, .int .u64 ep, .bool sh] 56) (hg : GRow w7 cb ccap 57 (cptrs (cs1.set j d))) (hj : j < cs1.length) (hd : ChAt B w7 d) (hgr : w7.grownBy w8 (some d.r)) :
    w8.cell? ⟨kb, 0, none⟩ = some (.slice (some ⟨cb, 0, none⟩) cs1.length ccap) ∧ w8.cell? ⟨cb, j, none⟩ = some (.pointer (some ⟨d.p, 0, none⟩)) ∧ w8.cell? ⟨d.p, 0, none⟩ = some (.slice (some ⟨d.r, 0, none⟩) d.ss.length d.cap) ∧ w8.frozen? ⟨d.p, 0, none⟩ = false ∧ kb ≠ d.p ∧ d.p ≠ kb ∧
    ∀ v, Blk (w8.setCell ⟨d.p, 0, none⟩ v) kb #[.slice (some ⟨cb, 0, none⟩) cs1.length ccap, .int .u64 ep, .bool sh] 56 ∧ GRow (w8.setCell ⟨d.p, 0, none⟩ v) cb ccap 57 (cptrs (cs1.set j ⟨d.p, g, cap8, d.e, U⟩)) := by
  obtain ⟨cur, hcur, _⟩ := hd.2.2.2
  have pass : ∀ b C t, t ≠ 9 → Blk w7 b C t → Blk w8 b C t := fun b C t ht hb => hb.grown hgr (by intro e; injection e with e; exact hcur.type_ne hb (Ne.symm ht) e)
  have h1 := pass _ _ _ (by decide) hkb
  have h2 : GRow w8 cb ccap 57 (cptrs (cs1.set j d)) := hg.imp fun C hC => pass _ _ _ (by decide) hC
  have h3 := pass _ _ _ (by decide) hd.2.2.1
  have hne := h1.type_ne h3 (by decide)
  have hc : cptrs (cs1.set j ⟨d.p, g, cap8, d.e, U⟩) = cptrs (cs1.set j d) := by rw [cptrs_set, cptrs_set]
  refine ⟨by rw [h1.cell]; rfl, ?_, by rw [h3.cell]; rfl, h3.free 0, hne, Ne.symm hne, fun v => ⟨h1.set_ne hne _ _, ?_⟩⟩
  · rw [h2.cell (by rw [cptrs_length, List.length_set]; exact hj), cptrs_get (by rw [List.length_set]; exact hj), List.getElem_set_self]
  · rw [hc]
    exact h2.imp fun C hC => hC.set_ne (hC.type_ne h3 (by decide)) _ _
end Go.Proofs.Qxb6619794a
